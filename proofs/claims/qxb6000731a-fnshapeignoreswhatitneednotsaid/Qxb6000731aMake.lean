/-
  THE WALKS over tupleOf and relOf.
-/
import Derived.Test.Qxb6000731aSmall
namespace Go.Proofs.Qxb6000731a
open Go.RowKit
/-! ### tupleOf -/
theorem Try.infob75 : (Try.prog.info? 75).map (fun i => (i.zero, i.size, i.bytes)) = some (some (.agg #[.int .u8 0, .slice none 0 0]), 2, 32) := by kernel_rfl
theorem Try.size75 : (Try.prog.info? 75).map (·.size) = some 2 := by kernel_rfl

theorem there_of_own {w : World} {B : Nat} {e : TypeId} {g n size : Nat} {xs : List Value} (h : w.ownsRow B e size (.slice (some ⟨g, 0, none⟩) n n) n xs) : w.there g 0 (n * size) := fun j hj => by
  have h1 := h.cellAt (j := j) hj
  have h2 := h.frozenAt (j := j)
  rw [Nat.zero_add]
  refine ⟨?_, h2⟩
  rw [h1, List.getElem?_eq_getElem (by rw [h.1]; exact hj)]
  rfl

theorem rangeAt_append {w : World} {b o : Nat} {xs ys : List Value} (h1 : w.rangeAt b o xs) (h2 : w.rangeAt b (o + xs.length) ys) : w.rangeAt b o (xs ++ ys) := fun j v hv => by
  by_cases hj : j < xs.length
  · rw [List.getElem?_append_left hj] at hv
    exact h1 j v hv
  · rw [List.getElem?_append_right (by omega)] at hv
    have := h2 (j - xs.length) v hv
    rwa [show o + xs.length + (j - xs.length) = o + j by omega] at this

theorem there_part {w : World} {b n : Nat} (h : w.there b 0 n) (o m : Nat) (hm : o + m ≤ n) : w.there b o m := fun j hj => by
  have := h (o + j) (by omega)
  rwa [Nat.zero_add] at this

theorem below_setCells {B : Nat} {a : World} {b : Nat} (hb : B ≤ b) (vs : List Value) : ∀ (o : Nat) (w : World), Below B a w → Below B a (w.setCells b o vs) := by
  induction vs with
  | nil => exact fun _ _ h => h
  | cons v r ih => exact fun o w h => ih _ _ (h.setCell (p := ⟨b, o, none⟩) hb v)

theorem tup_take_succ (zs : List Int) (k : Nat) (hk : k < zs.length) : tupCells (zs.take (k + 1)) = tupCells (zs.take k) ++ tup1 (zs[k]?.getD 0) := by
  rw [List.take_succ_eq_append_getElem hk]
  simp only [tupCells, List.flatMap_append, List.flatMap_cons, List.flatMap_nil, List.append_nil, List.getElem?_eq_getElem hk, Option.getD_some]

theorem tup1_one (z : Int) : #[Value.int .u8 z, .slice none 0 0].all (·.oneCell') = true := by simp [Value.oneCell']

set_option maxHeartbeats 400000 in
theorem tuple_any (a : Option Addr) (n c : Nat) (zs : List Int) (hn : n = zs.length) (hb : n ≤ 70000) (w : World) (h : Lies w a (U8s zs)) :
    Calls Try.prog 17 #[.slice a n c] w fun e w' => ∃ a', e = .returned (.slice a' n n) ∧ Lies w' a' (tupCells zs) ∧ Below w.heap.size w w' := by
  have HN : Hid (n = zs.length) := hn
  clear hn
  obtain ⟨i0, hi, hz0, hz1, hz2⟩ := info_parts Try.infob75
  go_enter Try.func17, Try.ntmps17
  go_wp2_with (at_make; refine wpList_make_full _ rfl (.tmp 6) (.tmp 6) 31 rfl w.heap.size 75 i0 (.agg #[.int .u8 0, .slice none 0 0]) 2 Try.underlying31 hi hz0 hz1 .i64 .i64 _ _ n rfl rfl rfl rfl ?h1 ?h2 ?h3 ?_)
  case h1 => rw [hz2]; omega
  case h2 => unfold maxLen; omega
  case h3 => exact Nat.le_refl _
  intro w1 hown hgrow
  have hbel1 : Below w.heap.size w w1 := (Below.refl _ _).grown hgrow (Nat.le_refl _) (fun k hk => by cases hk)
  have hth1 := there_of_own hown
  clear hown hgrow hi hz0 hz1 hz2 i0
  go_wp2
  go_loopw [4] (fun i wr => ∃ k : Nat, k ≤ n ∧ i = .int .i64 k ∧ Below w.heap.size w wr ∧ wr.there w.heap.size 0 (n * 2) ∧ wr.rangeAt w.heap.size 0 (tupCells (zs.take k))) (fun i _ => n - (intOf i).toNat)
  case atStart => exact ⟨0, Nat.zero_le _, rfl, hbel1, hth1, fun j v hv => by simp [tupCells] at hv⟩
  case round =>
    obtain ⟨k, hk, rfl, hbel, hth, hra⟩ := hrel
    clear hbel1 hth1
    by_cases hlt : k < n
    · have HS : Hid (tupCells (zs.take (k + 1)) = tupCells (zs.take k) ++ tup1 (zs[k]?.getD 0)) := tup_take_succ zs k (by rw [← HN.out]; exact hlt)
      have HL : Hid ((tupCells (zs.take k)).length = k * 2) := by
        show _ = _
        have := HN.out
        rw [length_tup, List.length_take]; omega
      obtain ⟨b, o, rfl, hc⟩ := (h.below hbel).u8 (k := k) (by rw [← HN.out]; exact hlt)
      generalize zs[k]?.getD 0 = z at hc HS
      have HT : Hid (wr.there w.heap.size 0 (n * 2)) := hth
      have HR : Hid (wr.rangeAt w.heap.size 0 (tupCells (zs.take k))) := hra
      clear hth hra
      go_wp2_with (refine wpList_store_mid rfl 75 (.tmp 21) (.tmp 20) rfl w.heap.size (k * 2) #[.int .u8 z, .slice none 0 0] rfl rfl ?s1 Try.size75 (tup1_one z) ?_)
      case s1 => exact there_part HT.out _ _ (by simp; omega)
      go_wp2
      go_roundw
      case rel =>
        refine ⟨k + 1, by omega, by go_num, below_setCells (Nat.le_refl _) _ _ _ hbel, World.there_setCells HT.out _ _ _, ?_⟩
        rw [HS.out]
        refine rangeAt_append (World.rangeAt_setCells_apart HR.out _ _ _ (by rw [HL.out]; omega)) ?_
        rw [HL.out, Nat.zero_add]
        exact World.rangeAt_setCells_same _ _ _ _ (there_part HT.out _ _ (by simp; omega))
      case measure => simp [intOf]; omega
    · have e : zs.take k = zs := List.take_of_length_le (by rw [← HN.out]; omega)
      rw [e] at hra
      go_wp2
      go_ret
      exact ⟨_, rfl, Lies.range hra, hbel⟩

/-! ### relOf -/
theorem Try.infob71 : (Try.prog.info? 71).map (fun i => (i.zero, i.size, i.bytes)) = some (some (.agg #[.string ByteArray.empty, .bool false, .int .u32 0, .int .i32 0]), 4, 32) := by kernel_rfl
theorem Try.size71 : (Try.prog.info? 71).map (·.size) = some 4 := by kernel_rfl
theorem col_take_succ (zs : List Bool) (k : Nat) (hk : k < zs.length) : colCells (zs.take (k + 1)) = colCells (zs.take k) ++ col1 (zs[k]?.getD false) := by
  rw [List.take_succ_eq_append_getElem hk]
  simp only [colCells, List.flatMap_append, List.flatMap_cons, List.flatMap_nil, List.append_nil, List.getElem?_eq_getElem hk, Option.getD_some]
theorem col1_one (z : Bool) : #[Value.string ByteArray.empty, .bool z, .int .u32 0, .int .i32 0].all (·.oneCell') = true := by simp [Value.oneCell']

set_option maxHeartbeats 400000 in
theorem rel_any (a : Option Addr) (n c : Nat) (zs : List Bool) (hn : n = zs.length) (hb : n ≤ 70000) (w : World) (h : Lies w a (Bs zs)) :
    Calls Try.prog 16 #[.slice a n c] w fun e w' => ∃ g, e = .returned (.pointer (some ⟨g, 0, none⟩)) ∧ RelAt w' g zs ∧ Below w.heap.size w w' := by
  have HN : Hid (n = zs.length) := hn
  clear hn
  obtain ⟨i0, hi, hz0, hz1, hz2⟩ := info_parts Try.infob71
  go_enter Try.func16, Try.ntmps16
  go_wp2_with (at_make; refine wpList_make_full _ rfl (.tmp 6) (.tmp 6) 69 rfl w.heap.size 71 i0 (.agg #[.string ByteArray.empty, .bool false, .int .u32 0, .int .i32 0]) 4 Try.underlying69 hi hz0 hz1 .i64 .i64 _ _ n rfl rfl rfl rfl ?h1 ?h2 ?h3 ?_)
  case h1 => rw [hz2]; omega
  case h2 => unfold maxLen; omega
  case h3 => exact Nat.le_refl _
  intro w1 hown hgrow
  have hbel1 : Below w.heap.size w w1 := (Below.refl _ _).grown hgrow (Nat.le_refl _) (fun k hk => by cases hk)
  have hth1 := there_of_own hown
  clear hown hgrow hi hz0 hz1 hz2 i0
  go_wp2
  go_loopw [4] (fun i wr => ∃ k : Nat, k ≤ n ∧ i = .int .i64 k ∧ Below w.heap.size w wr ∧ wr.there w.heap.size 0 (n * 4) ∧ wr.rangeAt w.heap.size 0 (colCells (zs.take k))) (fun i _ => n - (intOf i).toNat)
  case atStart => exact ⟨0, Nat.zero_le _, rfl, hbel1, hth1, fun j v hv => by simp [colCells] at hv⟩
  case round =>
    obtain ⟨k, hk, rfl, hbel, hth, hra⟩ := hrel
    clear hbel1 hth1
    by_cases hlt : k < n
    · have HS : Hid (colCells (zs.take (k + 1)) = colCells (zs.take k) ++ col1 (zs[k]?.getD false)) := col_take_succ zs k (by rw [← HN.out]; exact hlt)
      have HL : Hid ((colCells (zs.take k)).length = k * 4) := by
        show _ = _
        have := HN.out
        rw [length_col, List.length_take]; omega
      obtain ⟨b, o, rfl, hc⟩ := (h.below hbel).bool (k := k) (by rw [← HN.out]; exact hlt)
      generalize zs[k]?.getD false = z at hc HS
      have HT : Hid (wr.there w.heap.size 0 (n * 4)) := hth
      have HR : Hid (wr.rangeAt w.heap.size 0 (colCells (zs.take k))) := hra
      clear hth hra
      go_wp2_with (refine wpList_store_mid rfl 71 (.tmp 21) (.tmp 20) rfl w.heap.size (k * 4) #[.string ByteArray.empty, .bool z, .int .u32 0, .int .i32 0] rfl rfl ?s1 Try.size71 (col1_one z) ?_)
      case s1 => exact there_part HT.out _ _ (by simp; omega)
      go_wp2
      go_roundw
      case rel =>
        refine ⟨k + 1, by omega, by go_num, below_setCells (Nat.le_refl _) _ _ _ hbel, World.there_setCells HT.out _ _ _, ?_⟩
        rw [HS.out]
        refine rangeAt_append (World.rangeAt_setCells_apart HR.out _ _ _ (by rw [HL.out]; omega)) ?_
        rw [HL.out, Nat.zero_add]
        exact World.rangeAt_setCells_same _ _ _ _ (there_part HT.out _ _ (by simp; omega))
      case measure => simp [intOf]; omega
    · have e : zs.take k = zs := List.take_of_length_le (by rw [← HN.out]; omega)
      rw [e] at hra
      have HR : Hid (wr.rangeAt w.heap.size 0 (colCells zs)) := hra
      clear e hra hth
      go_wp2
      go_ret
      refine ⟨_, rfl, ⟨some ⟨w.heap.size, 0, none⟩, ?_, (Lies.range HR.out).below ((Below.refl _ _).alloc (Nat.le_refl _) _)⟩, hbel.alloc hbel.size _⟩
      rw [← HN.out]
      simp
end Go.Proofs.Qxb6000731a
