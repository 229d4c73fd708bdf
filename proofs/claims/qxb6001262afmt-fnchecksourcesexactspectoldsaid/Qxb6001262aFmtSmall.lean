/-
  THE WALKS over the small functions on the road of FnCheckSourcesExactSpec.
-/
import Derived.Test.Qxb6001262aFmtProg
import Derived.Test.Qxb6001262aFmtPlain
import Derived.WalkKit
import Derived.WalkSpells
import Derived.WalkLawsBesides
import Derived.Deep.MidRow
import Derived.Stop.CallBack
import Derived.Stop.IfaceNil
import GoSem.ClaimData
namespace Go.Proofs.Qxb6001262aFmt
open Go.RowKit
open Go.Extern.Stop Go.Stop Go.Extern

/-! ### What the walks say of memory -/
/-- The call answers one bool, and says whether p. -/
def Says (p : Prop) (e : Ending) : Prop := ∃ r : Bool, e = .returned (.bool r) ∧ (r = true ↔ p)
theorem Says.yes {p : Prop} {e : Ending} (he : e = .returned (.bool true)) (h : p) : Says p e := ⟨true, he, by simp [h]⟩
theorem Says.no {p : Prop} {e : Ending} (he : e = .returned (.bool false)) (h : ¬ p) : Says p e := ⟨false, he, by simp [h]⟩
/-- Strings as cells; their bytes. -/
def Ss (ss : List ByteArray) : List Value := ss.map Value.string
def Ks (ss : List ByteArray) : List (List UInt8) := ss.map ByteArray.toList
theorem length_Ss (ss : List ByteArray) : (Ss ss).length = ss.length := by simp [Ss]
theorem length_Ks (ss : List ByteArray) : (Ks ss).length = ss.length := by simp [Ks]
theorem Ks_at {ss : List ByteArray} {k : Nat} {x : ByteArray} (h : ss[k]? = some x) : (Ks ss)[k]? = some x.toList := by simp [Ks, h]
theorem Ks_take (ss : List ByteArray) (k : Nat) : Ks (ss.take k) = (Ks ss).take k := by simp [Ks]

/-- The slice that begins at 'a' reads, in w, as the strings 'ss'. -/
def Lies (w : World) (a : Option Addr) (ss : List ByteArray) : Prop := ∀ j x, ss[j]? = some x → ∃ b o, a = some ⟨b, o, none⟩ ∧ w.cell? ⟨b, o + j, none⟩ = some (.string x)
theorem Lies.below {w w' : World} {a : Option Addr} {ss : List ByteArray} (h : Lies w a ss) (hb : Below w.heap.size w w') : Lies w' a ss := fun j x hx => by
  obtain ⟨b, o, rfl, hc⟩ := h j x hx
  exact ⟨b, o, rfl, by rw [hb.cell (p := ⟨b, o + j, none⟩) (World.block_lt_of_cell? w _ hc)]; exact hc⟩
theorem Lies.nil (w : World) (a : Option Addr) : Lies w a [] := fun j x hx => by simp at hx
theorem Lies.take {w : World} {a : Option Addr} {ss : List ByteArray} (h : Lies w a ss) (k : Nat) : Lies w a (ss.take k) := fun j x hx => by
  rw [List.getElem?_take] at hx
  split at hx
  · exact h j x hx
  · cases hx
theorem Lies.str {w : World} {a : Option Addr} {ss : List ByteArray} (h : Lies w a ss) {k : Nat} (hk : k < ss.length) : ∃ b o x, a = some ⟨b, o, none⟩ ∧ ss[k]? = some x ∧ w.cell? ⟨b, o + k, none⟩ = some (.string x) := by
  obtain ⟨b, o, e, hc⟩ := h k _ (List.getElem?_eq_getElem hk)
  exact ⟨b, o, _, e, List.getElem?_eq_getElem hk, hc⟩

/-- Block g is a row of the strings L, which may be written. -/
def Blk (w : World) (g : Nat) (L : List ByteArray) : Prop := w.heap[g]? = some (.cells (Ss L).toArray 9 (0, 0))
theorem Blk.cell {w : World} {g : Nat} {L : List ByteArray} (h : Blk w g L) {k : Nat} {x : ByteArray} (hx : L[k]? = some x) : w.cell? ⟨g, k, none⟩ = some (.string x) ∧ w.frozen? ⟨g, k, none⟩ = false := by
  have h' : w.heap[g]? = some (.cells (Ss L).toArray 9 (0, 0)) := h
  refine ⟨?_, ?_⟩
  · rw [cell_of_row w g k _ 9 (0, 0) h']
    simp [Ss, hx]
  · simp [World.frozen?, h']
theorem Blk.store {w : World} {g : Nat} {L : List ByteArray} (h : Blk w g L) (k : Nat) (x : ByteArray) : Blk (w.setCell ⟨g, k, none⟩ (.string x)) g (L.set k x) := by
  have h' : w.heap[g]? = some (.cells (Ss L).toArray 9 (0, 0)) := h
  have e : (Ss (L.set k x)).toArray = (Ss L).toArray.setIfInBounds k (.string x) := by simp [Ss, List.map_set]
  unfold Blk
  rw [e]
  simp only [World.setCell, Array.getElem?_modify, h']
  simp
theorem Blk.lies {w : World} {g : Nat} {L : List ByteArray} (h : Blk w g L) : Lies w (some ⟨g, 0, none⟩) L := fun j x hx => ⟨g, 0, rfl, by rw [Nat.zero_add]; exact (h.cell hx).1⟩
theorem Blk.draw {w : World} {g : Nat} {L : List ByteArray} (h : Blk w g L) (n : Nat) : Blk (w.drewN n) g L := h

theorem Tryf.infob9 : (Tryf.prog.info? 9).map (fun i => (i.zero, i.size, i.bytes)) = some (some (.string ByteArray.empty), 1, 16) := by kernel_rfl

/-- A row made full, as a block. -/
theorem made_blk {w : World} {B g n : Nat} (h : w.ownsRow B 9 1 (.slice (some ⟨g, 0, none⟩) n n) n (madeCells #[Value.string ByteArray.empty] n).toList) : Blk w g (List.replicate n ByteArray.empty) := by
  rcases h.2 with ⟨h0, _⟩ | ⟨g', cap, cur, hv, _, hg, _, _, hs, ht⟩
  · cases h0
  · cases hv
    have e : cur.toList = Ss (List.replicate n ByteArray.empty) := by
      rw [List.take_of_length_le (by simp; omega)] at ht
      rw [ht]
      have := toList_madeCells_one (Value.string ByteArray.empty) n
      simp only [Ss, List.map_replicate]
      exact this
    unfold Blk
    rw [hg, ← e]

/-! ### The bounds -/
set_option maxHeartbeats 400000 in
theorem zz_any (a : Option Addr) (n c : Nat) (ss : List ByteArray) (hn : n = ss.length) (w : World) (h : Lies w a ss) :
    Calls Tryf.prog 6 #[.slice a n c] w fun e w' => Says (e = .returned (.bool true)) e ∧ w = w' := by
  have HN : Hid (n = ss.length) := hn
  clear hn
  by_cases hb : n ≤ 1048576
  · go_enter Tryf.func6, Tryf.ntmps6
    go_wp2
    go_loop [3, 4] (fun z i => ∃ k y : Nat, k ≤ n ∧ y ≤ 1048576 ∧ i = .int .i64 k ∧ z = .int .i64 y) (fun _ i => n - (intOf i).toNat)
    case atStart => exact ⟨0, n, Nat.zero_le _, hb, rfl, by go_num⟩
    case round =>
      obtain ⟨k, y, hk, hy, rfl, rfl⟩ := hrel
      by_cases hlt : k < n
      · obtain ⟨b, o, x, rfl, -, hc⟩ := h.str (k := k) (by rw [← HN.out]; exact hlt)
        by_cases h1 : x.size ≤ 1048576
        · by_cases h2 : y + x.size ≤ 1048576
          · go_wp2
            go_round
            case rel => exact ⟨k + 1, y + x.size, by omega, by omega, by go_num, by go_num⟩
            case measure => simp [intOf]; omega
          · go_wp2
            go_ret
            exact ⟨.no rfl (fun h => by cases h), rfl⟩
        · go_wp2
          go_ret
          exact ⟨.no rfl (fun h => by cases h), rfl⟩
      · go_wp2
        go_ret
        exact ⟨.yes rfl rfl, rfl⟩
  · go_enter Tryf.func6, Tryf.ntmps6
    go_wp2
    go_ret
    exact ⟨.no rfl (fun h => by cases h), rfl⟩

set_option maxHeartbeats 400000 in
theorem bytes_any (a : Option Addr) (n c : Nat) (ss : List ByteArray) (hn : n = ss.length) (hb : n ≤ 4096) (w : World) (h : Lies w a ss) :
    Calls Tryf.prog 7 #[.slice a n c] w fun e w' => (∃ z, e = .returned (.int .i64 z)) ∧ w = w' := by
  have HN : Hid (n = ss.length) := hn
  clear hn
  go_enter Tryf.func7, Tryf.ntmps7
  go_wp2
  go_loop [3, 4] (fun z i => ∃ k y : Nat, k ≤ n ∧ y ≤ 1048576 ∧ i = .int .i64 k ∧ z = .int .i64 y) (fun _ i => n - (intOf i).toNat)
  case atStart => exact ⟨0, 16 * n, Nat.zero_le _, by omega, rfl, by go_num⟩
  case round =>
    obtain ⟨k, y, hk, hy, rfl, rfl⟩ := hrel
    by_cases hlt : k < n
    · obtain ⟨b, o, x, rfl, -, hc⟩ := h.str (k := k) (by rw [← HN.out]; exact hlt)
      by_cases h2 : y + x.size ≤ 1048576
      · go_wp2
        go_round
        case rel => exact ⟨k + 1, y + x.size, by omega, by omega, by go_num, by go_num⟩
        case measure => simp [intOf]; omega
      · go_wp2
        go_ret
        exact ⟨⟨_, rfl⟩, rfl⟩
    · go_wp2
      go_ret
      exact ⟨⟨_, rfl⟩, rfl⟩

/-! ### lawClone -/
theorem set_take {L ss : List ByteArray} {k : Nat} {x : ByteArray} (hk : k < L.length) (hL : L.take k = ss.take k) (hx : ss[k]? = some x) : (L.set k x).take (k + 1) = ss.take (k + 1) := by
  obtain ⟨hks, rfl⟩ := List.getElem?_eq_some_iff.1 hx
  rw [List.take_succ_eq_append_getElem (by simpa using hk), List.take_succ_eq_append_getElem hks, ← hL, List.take_set_of_le (Nat.le_refl k)]
  simp

set_option maxHeartbeats 400000 in
theorem clone_some (x : Addr) (n c : Nat) (ss : List ByteArray) (hn : n = ss.length) (hb : n ≤ 4096) (w : World) (h : Lies w (some x) ss) :
    Calls Tryf.prog 8 #[.slice (some x) n c] w fun e w' => ∃ a', e = .returned (.slice a' n n) ∧ Lies w' a' ss ∧ Below w.heap.size w w' := by
  have q22 : ∀ (w : World) (a : Option Addr) (n c n' c' : Nat), (binOp .eql 22 (.slice a n c) (.slice none n' c')).run Tryf.prog w = .ok (.bool a.isNone) w := fun w a n c n' c' => Lib.run_eql_slice_nil w _ _ a n c n' c' Tryf.underlying22
  have HN : Hid (n = ss.length) := hn
  clear hn
  obtain ⟨i0, hi, hz0, hz1, hz2⟩ := info_parts Tryf.infob9
  go_enter Tryf.func8, Tryf.ntmps8
  go_wp2_with (at_make; refine wpList_make_full _ rfl (.tmp 8) (.tmp 8) 22 rfl w.heap.size 9 i0 (.string ByteArray.empty) 1 Tryf.underlying22 hi hz0 hz1 .i64 .i64 _ _ n rfl rfl rfl rfl ?h1 ?h2 ?h3 ?_)
  case h1 => rw [hz2]; omega
  case h2 => unfold maxLen; omega
  case h3 => exact Nat.le_refl _
  intro w1 hown hgrow
  have hbel1 : Below w.heap.size w w1 := (Below.refl _ _).grown hgrow (Nat.le_refl _) (fun k hk => by cases hk)
  have hblk := made_blk hown
  clear hown hgrow hi hz0 hz1 hz2 i0
  go_wp2
  go_loopw [4] (fun i wr => ∃ (k : Nat) (L : List ByteArray), k ≤ n ∧ i = .int .i64 k ∧ Below w.heap.size w wr ∧ Blk wr w.heap.size L ∧ Hid (L.length = n ∧ L.take k = ss.take k)) (fun i _ => n - (intOf i).toNat)
  case atStart => exact ⟨0, _, Nat.zero_le _, rfl, hbel1, hblk, by simp [Hid]⟩
  case round =>
    obtain ⟨k, L, hk, rfl, hbel, hbk, HL⟩ := hrel
    clear hbel1 hblk
    by_cases hlt : k < n
    · obtain ⟨b, o, y, hxe, hy, hc⟩ := (h.below hbel).str (k := k) (by rw [← HN.out]; exact hlt)
      cases hxe
      have HY : Hid (ss[k]? = some y) := hy
      clear hy
      obtain ⟨z, hz⟩ : ∃ z, L[k]? = some z := ⟨_, List.getElem?_eq_getElem (by rw [HL.out.1]; exact hlt)⟩
      obtain ⟨hcl, hfz⟩ := hbk.cell hz
      clear hz
      go_wp2
      go_roundw
      case rel => exact ⟨k + 1, L.set k y, by omega, by go_num, hbel.setCell (Nat.le_refl _) _, hbk.store k y, ⟨by rw [List.length_set]; exact HL.out.1, set_take (by rw [HL.out.1]; exact hlt) HL.out.2 HY.out⟩⟩
      case measure => simp [intOf]; omega
    · have e : L = ss := by
        have h1 := HL.out.1
        have h2 := HL.out.2
        have h3 := HN.out
        rw [List.take_of_length_le (by omega), List.take_of_length_le (by omega)] at h2
        exact h2
      rw [e] at hbk
      clear e HL
      go_wp2
      go_ret
      exact ⟨_, rfl, hbk.lies, hbel⟩

set_option maxHeartbeats 400000 in
theorem clone_none (w : World) : Calls Tryf.prog 8 #[.slice none 0 0] w fun e w' => e = .returned (.slice none 0 0) ∧ w = w' := by
  have q22 : ∀ (w : World) (a : Option Addr) (n c n' c' : Nat), (binOp .eql 22 (.slice a n c) (.slice none n' c')).run Tryf.prog w = .ok (.bool a.isNone) w := fun w a n c n' c' => Lib.run_eql_slice_nil w _ _ a n c n' c' Tryf.underlying22
  go_enter Tryf.func8, Tryf.ntmps8
  go_wp2
  go_ret
  exact ⟨rfl, rfl⟩

theorem clone_any (a : Option Addr) (n c : Nat) (ss : List ByteArray) (hn : n = ss.length) (hb : n ≤ 4096) (w : World) (h : Lies w a ss) (hab : a = none → n = 0 ∧ c = 0) :
    Calls Tryf.prog 8 #[.slice a n c] w fun e w' => ∃ a', e = .returned (.slice a' n n) ∧ Lies w' a' ss ∧ Below w.heap.size w w' := by
  cases a with
  | none =>
    obtain ⟨rfl, rfl⟩ := hab rfl
    refine (clone_none w).mono ?_
    rintro e w' ⟨rfl, rfl⟩
    exact ⟨none, rfl, h, Below.refl _ _⟩
  | some x => exact clone_some x n c ss hn hb w h

/-! ### slices.Index, slices.Contains -/
set_option maxHeartbeats 400000 in
theorem index_any (a : Option Addr) (n c : Nat) (ss : List ByteArray) (v : ByteArray) (hn : n = ss.length) (hb : n ≤ 4096) (w : World) (h : Lies w a ss) :
    Calls Tryf.prog 18 #[.slice a n c, .string v] w fun e w' => (∃ z, e = .returned (.int .i64 z) ∧ (0 ≤ z ↔ v.toList ∈ Ks ss)) ∧ w = w' := by
  have HN : Hid (n = ss.length) := hn
  clear hn
  go_enter Tryf.func18, Tryf.ntmps18
  go_wp2
  go_loop [8] (fun i => ∃ k : Nat, k ≤ n ∧ i = .int .i64 k ∧ Hid (∀ j x, j < k → ss[j]? = some x → ¬ v.toList = x.toList)) (fun i => n - (intOf i).toNat)
  case atStart => exact ⟨0, Nat.zero_le _, rfl, fun j x hj => absurd hj (Nat.not_lt_zero _)⟩
  case round =>
    obtain ⟨k, hk, rfl, hall⟩ := hrel
    by_cases hlt : k < n
    · obtain ⟨b, o, x, rfl, hx, hc⟩ := h.str (k := k) (by rw [← HN.out]; exact hlt)
      have HX : Hid (ss[k]? = some x) := hx
      clear hx
      by_cases hv : v.toList = x.toList
      · have hv' : (v.toList == x.toList) = true := by simpa using hv
        have HV : Hid (v.toList = x.toList) := hv
        clear hv
        go_wp2
        go_ret
        exact ⟨⟨_, rfl, iff_of_true (by omega) (by rw [HV.out]; exact List.mem_of_getElem? (Ks_at HX.out))⟩, rfl⟩
      · have hv' : (v.toList == x.toList) = false := by simpa using hv
        have HV : Hid (¬ v.toList = x.toList) := hv
        clear hv
        go_wp2
        go_round
        case rel => exact ⟨k + 1, by omega, by go_num, fun j y hj hy => by
          by_cases e : j = k
          · subst e
            have := HX.out
            rw [hy] at this
            cases this
            exact HV.out
          · exact hall.out j y (by omega) hy⟩
        case measure => simp [intOf]; omega
    · go_wp2
      go_ret
      refine ⟨⟨_, rfl, iff_of_false (by decide) fun hm => ?_⟩, rfl⟩
      obtain ⟨y, hy, e⟩ := List.mem_map.1 hm
      obtain ⟨j, hj⟩ := List.mem_iff_getElem?.1 hy
      have hjl := (List.getElem?_eq_some_iff.1 hj).1
      exact hall.out j y (by have := HN.out; omega) hj e.symm

set_option maxHeartbeats 400000 in
theorem contains_any (a : Option Addr) (n c : Nat) (ss : List ByteArray) (v : ByteArray) (hn : n = ss.length) (hb : n ≤ 4096) (w : World) (h : Lies w a ss) :
    Calls Tryf.prog 16 #[.slice a n c, .string v] w fun e w' => Says (v.toList ∈ Ks ss) e ∧ w = w' := by
  have HI : Hid (Calls Tryf.prog 18 #[.slice a n c, .string v] w fun e w' => (∃ z, e = .returned (.int .i64 z) ∧ (0 ≤ z ↔ v.toList ∈ Ks ss)) ∧ w = w') := index_any a n c ss v hn hb w h
  clear hn h
  go_enter Tryf.func16, Tryf.ntmps16
  go_wp2_with fail
  refine HI.out.mono ?_
  rintro e w' ⟨⟨z, rfl, hz⟩, rfl⟩
  have HZ : Hid (0 ≤ z ↔ v.toList ∈ Ks ss) := hz
  clear hz HI
  by_cases h0 : 0 ≤ z
  · go_wp2
    go_ret
    exact ⟨.yes (by simp) (HZ.out.1 h0), rfl⟩
  · go_wp2
    go_ret
    exact ⟨.no (by simp; omega) (fun h => by have := HZ.out.2 h; omega), rfl⟩

end Go.Proofs.Qxb6001262aFmt
