/-
  THE WALKS over the small functions that the laws call.
-/
import Derived.Test.Qxb6000731aProg
import Derived.Test.Qxb6000731aParts
import Derived.Laws.CopyOwn
import Derived.WalkSpells
import Derived.WalkLawsBesides
namespace Go.Proofs.Qxb6000731a
open Go.RowKit
theorem Try.infob5 : (Try.prog.info? 5).map (fun i => (i.zero, i.size, i.bytes)) = some (some (.int .u8 0), 1, 1) := by kernel_rfl
theorem Try.size5 : (Try.prog.info? 5).map (·.size) = some 1 := by kernel_rfl
theorem Try.infob4 : (Try.prog.info? 4).map (fun i => (i.zero, i.size, i.bytes)) = some (some (.bool false), 1, 1) := by kernel_rfl
theorem Try.size4 : (Try.prog.info? 4).map (·.size) = some 1 := by kernel_rfl

/-! ### The bounds laid by program -/
set_option maxHeartbeats 400000 in
theorem zz12_any (a0 a1 a3 a4 : Option Addr) (n0 n1 n3 n4 c0 c1 c3 c4 : Nat) (op : Int) (w : World) :
    Calls Try.prog 12 #[.slice a0 n0 c0, .slice a1 n1 c1, .int .u8 op, .slice a3 n3 c3, .slice a4 n4 c4] w fun e w' => Says (e = .returned (.bool true)) e ∧ w = w' := by
  go_enter Try.func12, Try.ntmps12
  go_wp2
  all_goals (go_ret; exact ⟨by first | exact .yes rfl rfl | exact .no rfl (fun h => by cases h), rfl⟩)

set_option maxHeartbeats 400000 in
theorem zz20_any (a0 a1 a2 a3 a4 : Option Addr) (n0 n1 n2 n3 n4 c0 c1 c2 c3 c4 : Nat) (w : World) :
    Calls Try.prog 20 #[.slice a0 n0 c0, .slice a1 n1 c1, .slice a2 n2 c2, .slice a3 n3 c3, .slice a4 n4 c4] w fun e w' => Says (e = .returned (.bool true)) e ∧ w = w' := by
  go_enter Try.func20, Try.ntmps20
  go_wp2
  all_goals (go_ret; exact ⟨by first | exact .yes rfl rfl | exact .no rfl (fun h => by cases h), rfl⟩)

set_option maxHeartbeats 400000 in
theorem zz21_any (a0 a2 a3 a4 : Option Addr) (n0 n2 n3 n4 c0 c2 c3 c4 : Nat) (op col kind : Int) (w : World) :
    Calls Try.prog 21 #[.slice a0 n0 c0, .int .u8 op, .slice a2 n2 c2, .slice a3 n3 c3, .slice a4 n4 c4, .int .i64 col, .int .u8 kind] w fun e w' => Says (e = .returned (.bool true)) e ∧ w = w' := by
  go_enter Try.func21, Try.ntmps21
  go_wp2
  all_goals (go_ret; exact ⟨by first | exact .yes rfl rfl | exact .no rfl (fun h => by cases h), rfl⟩)

/-! ### keysCovered -/
set_option maxHeartbeats 400000 in
theorem keys_any (a0 : Option Addr) (n c : Nat) (ks : List Bool) (hn : n = ks.length) (a1 : Option Addr) (m c1 : Nat) (hb : n ≤ 65536) (w : World) (h0 : Lies w a0 (Bs ks)) :
    Calls Try.prog 13 #[.slice a0 n c, .slice a1 m c1] w fun e w' => Says (Cov ks m) e ∧ w = w' := by
  have HN : Hid (n = ks.length) := hn
  clear hn
  go_enter Try.func13, Try.ntmps13
  go_wp2
  go_loop [5] (fun i => ∃ k : Nat, k ≤ n ∧ i = .int .i64 k ∧ Hid (∀ i, i < k → m ≤ i → ks[i]?.getD false = false)) (fun i => n - (intOf i).toNat)
  case atStart => exact ⟨0, Nat.zero_le _, rfl, fun i hi => absurd hi (Nat.not_lt_zero _)⟩
  case round =>
    obtain ⟨k, hk, rfl, hcov⟩ := hrel
    by_cases hlt : k < n
    · obtain ⟨b, o, rfl, hck⟩ := h0.bool (k := k) (by rw [← HN.out]; exact hlt)
      cases hv : ks[k]?.getD false with
      | false =>
        rw [hv] at hck
        have HV : Hid (ks[k]?.getD false = false) := hv
        clear hv
        go_wp2
        go_round
        case rel => exact ⟨k + 1, by omega, by go_num, fun i hi hmi => by
          by_cases e : i = k
          · subst e; exact HV.out
          · exact hcov.out i (by omega) hmi⟩
        case measure => simp [intOf]; omega
      | true =>
        rw [hv] at hck
        have HV : Hid (ks[k]?.getD false = true) := hv
        clear hv
        by_cases hmk : m ≤ k
        · go_wp2
          go_ret
          refine ⟨.no rfl fun h => ?_, rfl⟩
          have := h k (by rw [← HN.out]; exact hlt) hmk
          rw [HV.out] at this
          cases this
        · go_wp2
          go_round
          case rel => exact ⟨k + 1, by omega, by go_num, fun i hi hmi => hcov.out i (by omega) hmi⟩
          case measure => simp [intOf]; omega
    · go_wp2
      go_ret
      exact ⟨.yes rfl fun i hi hmi => hcov.out i (by have := HN.out; omega) hmi, rfl⟩

/-! ### bytesEq -/
set_option maxHeartbeats 400000 in
theorem eq_any (a0 a1 : Option Addr) (n0 c0 n1 c1 : Nat) (xs ys : List Int) (hx : n0 = xs.length) (hy : n1 = ys.length) (hb0 : n0 ≤ 1000000) (w : World)
    (h0 : Lies w a0 (U8s xs)) (h1 : Lies w a1 (U8s ys)) :
    Calls Try.prog 19 #[.slice a0 n0 c0, .slice a1 n1 c1] w fun e w' => Says (xs = ys) e ∧ Below w.heap.size w w' := by
  by_cases hl : n0 = n1
  · subst hl
    have HX : Hid (n0 = xs.length) := hx
    have HY : Hid (n0 = ys.length) := hy
    clear hx hy
    go_enter Try.func19, Try.ntmps19
    go_wp2
    go_loopw [5] (fun i wr => ∃ k : Nat, k ≤ n0 ∧ i = .int .i64 k ∧ Below w.heap.size w wr ∧ Hid (∀ i, i < k → xs[i]?.getD 0 = ys[i]?.getD 0)) (fun i _ => n0 - (intOf i).toNat)
    case atStart => exact ⟨0, Nat.zero_le _, rfl, Below.refl _ _, fun i hi => absurd hi (Nat.not_lt_zero _)⟩
    case round =>
      obtain ⟨k, hk, rfl, hbel, hall⟩ := hrel
      by_cases hlt : k < n0
      · obtain ⟨b, o, rfl, hc0⟩ := (h0.below hbel).u8 (k := k) (by rw [← HX.out]; exact hlt)
        obtain ⟨b', o', rfl, hc1⟩ := (h1.below hbel).u8 (k := k) (by rw [← HY.out]; exact hlt)
        have i0 : (0 : Int) ≤ (k : Int) := by omega
        have i1 : (k : Int) < (n0 : Int) := by omega
        by_cases hv : xs[k]?.getD 0 = ys[k]?.getD 0
        · have HV : Hid (xs[k]?.getD 0 = ys[k]?.getD 0) := hv
          rw [hv] at hc0
          clear hv
          go_wp2
          go_region
          all_goals go_wp2
          all_goals go_roundw
          case rel => exact ⟨k + 1, by omega, by go_num, hbel.drew, fun i hi => by
            by_cases e : i = k
            · subst e; exact HV.out
            · exact hall.out i (by omega)⟩
          case measure => simp [intOf]; omega
        · have hne : (xs[k]?.getD 0 != ys[k]?.getD 0) = true := by simpa using hv
          go_wp2
          go_region
          all_goals go_wp2
          all_goals go_ret
          exact ⟨.no rfl (ne_at hv), hbel.drew⟩
      · go_wp2
        go_ret
        exact ⟨.yes rfl (eq_all (by rw [← HX.out, HY.out]) fun i hi => hall.out i (by have := HX.out; omega)), hbel⟩
  · go_enter Try.func19, Try.ntmps19
    go_wp2
    go_ret
    exact ⟨.no rfl (fun e => hl (by rw [hx, hy, e])), Below.refl _ _⟩

/-! ### cloneBytes, cloneBools -/
/-- A row made full, as a block. -/
theorem made_block {w : World} {B : Nat} {e : TypeId} {g n : Nat} {xs : List Value} (h : w.ownsRow B e 1 (.slice (some ⟨g, 0, none⟩) n n) n xs) : w.heap[g]? = some (.cells xs.toArray e (0, 0)) := by
  rcases h.2 with ⟨h0, _⟩ | ⟨g', cap, cur, hv, _, hg, _, _, hs, ht⟩
  · cases h0
  · cases hv
    have : cur.toList = xs := by
      rw [← ht, List.take_of_length_le (by simp; omega)]
    rw [hg, ← this]

theorem splice_all {α : Type} (L cs : List α) (h : cs.length = L.length) : splice L 0 cs = cs := by
  simp [splice, h]

theorem rangeAt_of_cells {w : World} {g : Nat} {cs : List Value} {e : TypeId} (h : w.heap[g]? = some (.cells cs.toArray e (0, 0))) : w.rangeAt g 0 cs := fun j v hv => by
  rw [cell_of_row w g (0 + j) cs.toArray e (0, 0) h]
  simpa using hv

set_option maxHeartbeats 400000 in
theorem clone_some (x : Addr) (n c : Nat) (zs : List Int) (hn : n = zs.length) (hb : n ≤ 70000) (w : World) (h : Lies w (some x) (U8s zs)) :
    Calls Try.prog 14 #[.slice (some x) n c] w fun e w' => ∃ a', e = .returned (.slice (some a') n n) ∧ Lies w' (some a') (U8s zs) ∧ Below w.heap.size w w' := by
  have q22 : ∀ (w : World) (a : Option Addr) (n c n' c' : Nat), (binOp .eql 22 (.slice a n c) (.slice none n' c')).run Try.prog w = .ok (.bool a.isNone) w := fun w a n c n' c' => Lib.run_eql_slice_nil w _ _ a n c n' c' Try.underlying22
  have HN : Hid (n = zs.length) := hn
  clear hn
  obtain ⟨i0, hi, hz0, hz1, hz2⟩ := info_parts Try.infob5
  go_enter Try.func14, Try.ntmps14
  go_wp2_with (at_make; refine wpList_make_full _ rfl (.tmp 7) (.tmp 7) 22 rfl w.heap.size 5 i0 (.int .u8 0) 1 Try.underlying22 hi hz0 hz1 .i64 .i64 _ _ n rfl rfl rfl rfl ?h1 ?h2 ?h3 ?_)
  case h1 => rw [hz2]; omega
  case h2 => unfold maxLen; omega
  case h3 => exact Nat.le_refl _
  intro w1 hown hgrow
  have hbel : Below w.heap.size w w1 := (Below.refl _ _).grown hgrow (Nat.le_refl _) (fun k hk => by cases hk)
  have hblk := made_block hown
  have hml := hown.1
  generalize (madeCells #[Value.int IntKind.u8 0] n).toList = M at hblk hml
  have HB : Hid (w1.heap[w.heap.size]? = some (.cells M.toArray 5 (0, 0))) := hblk
  have HM : Hid (M.length = n * 1) := hml
  clear hblk hml hown hgrow
  go_wp2_with (refine wpList_copy_splice rfl (.tmp 9) (.tmp 10) 22 22 rfl 5 Try.underlying22 Try.size5 _ _ n n n c rfl rfl w.heap.size 0 M 5 HB.out (U8s zs) ?c1 ?c2 ?c3 (U8s_one zs) w.heap.size w hbel (Nat.le_refl _) ?_)
  case c1 => rw [length_U8s, ← HN.out]; simp
  case c2 =>
    intro _ j v hv
    obtain ⟨b, o, e, hc⟩ := (h.below hbel) j v hv
    cases e
    rw [Addr.add_mid]; exact hc
  case c3 => rw [length_U8s, ← HN.out]; have := HM.out; omega
  intro w2 HG hbel2
  go_wp2
  go_ret
  refine ⟨_, rfl, Lies.range (rangeAt_of_cells (e := 5) ?_), hbel2⟩
  have e := HG.out
  rw [splice_all _ _ (by rw [length_U8s, ← HN.out]; have := HM.out; omega)] at e
  exact e

set_option maxHeartbeats 400000 in
theorem clone_none (w : World) : Calls Try.prog 14 #[.slice none 0 0] w fun e w' => e = .returned (.slice none 0 0) ∧ w = w' := by
  have q22 : ∀ (w : World) (a : Option Addr) (n c n' c' : Nat), (binOp .eql 22 (.slice a n c) (.slice none n' c')).run Try.prog w = .ok (.bool a.isNone) w := fun w a n c n' c' => Lib.run_eql_slice_nil w _ _ a n c n' c' Try.underlying22
  go_enter Try.func14, Try.ntmps14
  go_wp2
  go_ret
  exact ⟨rfl, rfl⟩

theorem clone_any (a : Option Addr) (n c : Nat) (zs : List Int) (hn : n = zs.length) (hb : n ≤ 70000) (w : World) (h : Lies w a (U8s zs)) (hab : a = none → n = 0 ∧ c = 0) :
    Calls Try.prog 14 #[.slice a n c] w fun e w' => ∃ a', e = .returned (.slice a' n n) ∧ Lies w' a' (U8s zs) ∧ Below w.heap.size w w' ∧ (a' = none → n = 0 ∧ n = 0) := by
  cases a with
  | none =>
    obtain ⟨rfl, rfl⟩ := hab rfl
    refine (clone_none w).mono ?_
    rintro e w' ⟨rfl, rfl⟩
    exact ⟨none, rfl, h, Below.refl _ _, fun _ => ⟨rfl, rfl⟩⟩
  | some x =>
    refine (clone_some x n c zs hn hb w h).mono ?_
    rintro e w' ⟨a', rfl, h1, h2⟩
    exact ⟨some a', rfl, h1, h2, fun e => by cases e⟩

set_option maxHeartbeats 400000 in
theorem cloneB_some (x : Addr) (n c : Nat) (zs : List Bool) (hn : n = zs.length) (hb : n ≤ 70000) (w : World) (h : Lies w (some x) (Bs zs)) :
    Calls Try.prog 15 #[.slice (some x) n c] w fun e w' => ∃ a', e = .returned (.slice (some a') n n) ∧ Lies w' (some a') (Bs zs) ∧ Below w.heap.size w w' := by
  have q23 : ∀ (w : World) (a : Option Addr) (n c n' c' : Nat), (binOp .eql 23 (.slice a n c) (.slice none n' c')).run Try.prog w = .ok (.bool a.isNone) w := fun w a n c n' c' => Lib.run_eql_slice_nil w _ _ a n c n' c' Try.underlying23
  have HN : Hid (n = zs.length) := hn
  clear hn
  obtain ⟨i0, hi, hz0, hz1, hz2⟩ := info_parts Try.infob4
  go_enter Try.func15, Try.ntmps15
  go_wp2_with (at_make; refine wpList_make_full _ rfl (.tmp 7) (.tmp 7) 23 rfl w.heap.size 4 i0 (.bool false) 1 Try.underlying23 hi hz0 hz1 .i64 .i64 _ _ n rfl rfl rfl rfl ?h1 ?h2 ?h3 ?_)
  case h1 => rw [hz2]; omega
  case h2 => unfold maxLen; omega
  case h3 => exact Nat.le_refl _
  intro w1 hown hgrow
  have hbel : Below w.heap.size w w1 := (Below.refl _ _).grown hgrow (Nat.le_refl _) (fun k hk => by cases hk)
  have hblk := made_block hown
  have hml := hown.1
  generalize (madeCells #[Value.bool false] n).toList = M at hblk hml
  have HB : Hid (w1.heap[w.heap.size]? = some (.cells M.toArray 4 (0, 0))) := hblk
  have HM : Hid (M.length = n * 1) := hml
  clear hblk hml hown hgrow
  go_wp2_with (refine wpList_copy_splice rfl (.tmp 9) (.tmp 10) 23 23 rfl 4 Try.underlying23 Try.size4 _ _ n n n c rfl rfl w.heap.size 0 M 4 HB.out (Bs zs) ?c1 ?c2 ?c3 (Bs_one zs) w.heap.size w hbel (Nat.le_refl _) ?_)
  case c1 => rw [length_Bs, ← HN.out]; simp
  case c2 =>
    intro _ j v hv
    obtain ⟨b, o, e, hc⟩ := (h.below hbel) j v hv
    cases e
    rw [Addr.add_mid]; exact hc
  case c3 => rw [length_Bs, ← HN.out]; have := HM.out; omega
  intro w2 HG hbel2
  go_wp2
  go_ret
  refine ⟨_, rfl, Lies.range (rangeAt_of_cells (e := 4) ?_), hbel2⟩
  have e := HG.out
  rw [splice_all _ _ (by rw [length_Bs, ← HN.out]; have := HM.out; omega)] at e
  exact e

set_option maxHeartbeats 400000 in
theorem cloneB_none (w : World) : Calls Try.prog 15 #[.slice none 0 0] w fun e w' => e = .returned (.slice none 0 0) ∧ w = w' := by
  have q23 : ∀ (w : World) (a : Option Addr) (n c n' c' : Nat), (binOp .eql 23 (.slice a n c) (.slice none n' c')).run Try.prog w = .ok (.bool a.isNone) w := fun w a n c n' c' => Lib.run_eql_slice_nil w _ _ a n c n' c' Try.underlying23
  go_enter Try.func15, Try.ntmps15
  go_wp2
  go_ret
  exact ⟨rfl, rfl⟩

theorem cloneB_any (a : Option Addr) (n c : Nat) (zs : List Bool) (hn : n = zs.length) (hb : n ≤ 70000) (w : World) (h : Lies w a (Bs zs)) (hab : a = none → n = 0 ∧ c = 0) :
    Calls Try.prog 15 #[.slice a n c] w fun e w' => ∃ a', e = .returned (.slice a' n n) ∧ Lies w' a' (Bs zs) ∧ Below w.heap.size w w' := by
  cases a with
  | none =>
    obtain ⟨rfl, rfl⟩ := hab rfl
    refine (cloneB_none w).mono ?_
    rintro e w' ⟨rfl, rfl⟩
    exact ⟨none, rfl, h, Below.refl _ _⟩
  | some x =>
    refine (cloneB_some x n c zs hn hb w h).mono ?_
    rintro e w' ⟨a', rfl, h1, h2⟩
    exact ⟨some a', rfl, h1, h2⟩

end Go.Proofs.Qxb6000731a
