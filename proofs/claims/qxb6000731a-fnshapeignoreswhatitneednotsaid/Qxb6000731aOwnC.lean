/-
  cloneBytes once more: the clone lies in a block of its own, which may be written.
-/
import Derived.Test.Qxb6000731aSmall
namespace Go.Proofs.Qxb6000731a
open Go.RowKit

/-- A slice of n bytes that is nil (and empty), or a whole block from number B on. -/
def Fresh (B : Nat) (w : World) (a : Option Addr) (zs : List Int) : Prop :=
  (a = none ∧ zs = []) ∨ ∃ g, a = some ⟨g, 0, none⟩ ∧ B ≤ g ∧ w.heap[g]? = some (.cells (U8s zs).toArray 5 (0, 0))

theorem Fresh.lies {B : Nat} {w : World} {a : Option Addr} {zs : List Int} (h : Fresh B w a zs) : Lies w a (U8s zs) := by
  rcases h with ⟨_, rfl⟩ | ⟨g, rfl, _, hg⟩
  · exact Lies.nil _ _
  · exact Lies.range (rangeAt_of_cells hg)

set_option maxHeartbeats 400000 in
theorem clone_own_some (x : Addr) (n c : Nat) (zs : List Int) (hn : n = zs.length) (hb : n ≤ 70000) (w : World) (h : Lies w (some x) (U8s zs)) :
    Calls Try.prog 14 #[.slice (some x) n c] w fun e w' => e = .returned (.slice (some ⟨w.heap.size, 0, none⟩) n n) ∧ w'.heap[w.heap.size]? = some (.cells (U8s zs).toArray 5 (0, 0)) ∧ Below w.heap.size w w' := by
  have q22 : ∀ (w : World) (a : Option Addr) (n c n' c' : Nat), (binOp .eql 22 (.slice a n c) (.slice none n' c')).run Try.prog w = .ok (.bool a.isNone) w := fun w a n c n' c' => Lib.run_eql_slice_nil w _ _ a n c n' c' Try.underlying22
  have HN : Hid (n = zs.length) := hn
  clear hn
  obtain ⟨i0, hi, hz0, hz1, hz2⟩ := info_parts Try.infob5
  go_enter Try.func14, Try.ntmps14
  go_wp2_with (at_make; refine wpList_make_full _ rfl (.tmp 7) (.tmp 7) 22 rfl w.heap.size 5 i0 (.int .u8 0) 1 Try.underlying22 hi hz0 hz1 .i64 .i64 _ _ n rfl rfl rfl rfl ?h1 ?h2 ?h3 ?_)
  case h1 => rw [hz2]; omega
  case h2 => unfold maxLen; omega
  case h3 => exact Nat.le_refl _
  intro w1 hown hgrow
  have hbel : Below w.heap.size w w1 := (Below.refl _ _).grown hgrow (Nat.le_refl _) (fun k hk => by cases hk)
  have hblk := made_block hown
  have hml := hown.1
  generalize (madeCells #[Value.int IntKind.u8 0] n).toList = M at hblk hml
  have HB : Hid (w1.heap[w.heap.size]? = some (.cells M.toArray 5 (0, 0))) := hblk
  have HM : Hid (M.length = n * 1) := hml
  clear hblk hml hown hgrow
  go_wp2_with (refine wpList_copy_splice rfl (.tmp 9) (.tmp 10) 22 22 rfl 5 Try.underlying22 Try.size5 _ _ n n n c rfl rfl w.heap.size 0 M 5 HB.out (U8s zs) ?c1 ?c2 ?c3 (U8s_one zs) w.heap.size w hbel (Nat.le_refl _) ?_)
  case c1 => rw [length_U8s, ← HN.out]; simp
  case c2 =>
    intro _ j v hv
    obtain ⟨b, o, e, hc⟩ := (h.below hbel) j v hv
    cases e
    rw [Addr.add_mid]; exact hc
  case c3 => rw [length_U8s, ← HN.out]; have := HM.out; omega
  intro w2 HG hbel2
  go_wp2
  go_ret
  refine ⟨rfl, ?_, hbel2⟩
  have e := HG.out
  rw [splice_all _ _ (by rw [length_U8s, ← HN.out]; have := HM.out; omega)] at e
  exact e

theorem clone_own (a : Option Addr) (n c : Nat) (zs : List Int) (hn : n = zs.length) (hb : n ≤ 70000) (w : World) (h : Lies w a (U8s zs)) (hab : a = none → n = 0 ∧ c = 0) :
    Calls Try.prog 14 #[.slice a n c] w fun e w' => ∃ a', e = .returned (.slice a' n n) ∧ Fresh w.heap.size w' a' zs ∧ Below w.heap.size w w' := by
  cases a with
  | none =>
    obtain ⟨rfl, rfl⟩ := hab rfl
    refine (clone_none w).mono ?_
    rintro e w' ⟨rfl, rfl⟩
    exact ⟨none, rfl, .inl ⟨rfl, List.eq_nil_of_length_eq_zero hn.symm⟩, Below.refl _ _⟩
  | some x =>
    refine (clone_own_some x n c zs hn hb w h).mono ?_
    rintro e w' ⟨rfl, h1, h2⟩
    exact ⟨_, rfl, .inr ⟨_, rfl, Nat.le_refl _, h1⟩, h2⟩

/-- One byte of it is written. -/
theorem Fresh.store {w : World} {g : Nat} {zs : List Int} (hg : w.heap[g]? = some (.cells (U8s zs).toArray 5 (0, 0))) (k : Nat) (z : Int) :
    (w.setCell ⟨g, k, none⟩ (.int .u8 z)).heap[g]? = some (.cells (U8s (zs.set k z)).toArray 5 (0, 0)) := by
  have e : (U8s (zs.set k z)).toArray = (U8s zs).toArray.setIfInBounds k (.int .u8 z) := by simp [U8s, List.map_set]
  rw [e]
  simp only [World.setCell, Array.getElem?_modify, hg]
  simp

theorem fresh_cell {w : World} {g : Nat} {zs : List Int} (hg : w.heap[g]? = some (.cells (U8s zs).toArray 5 (0, 0))) (k : Nat) (hk : k < zs.length) :
    w.cell? ⟨g, k, none⟩ = some (.int .u8 (zs[k]?.getD 0)) ∧ w.frozen? ⟨g, k, none⟩ = false := by
  refine ⟨?_, ?_⟩
  · rw [cell_of_row w g k _ 5 (0, 0) hg, ← U8s_at hk]
    simp
  · simp [World.frozen?, hg]

end Go.Proofs.Qxb6000731a
