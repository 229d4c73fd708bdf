/-
  FROM THE ROW's READING OF AN ARGUMENT TO WHAT THE WALKS ASK ('Came').
-/
import Derived.Test.Qxb6000731aRows
import Derived.Test.Qxb6000731aJoin
import Derived.ProofKit
import Derived.OpenShut
import Derived.ChangeOld
import Derived.Below
import Derived.Deep.Grids
namespace Go.Proofs.Qxb6000731a
open Go.ChangeShapes Go.WideShapes Go.ChangeAt Go.RowKit

theorem Try.own : ownKnob Try.prog.godebug = none := by kernel_rfl
theorem Try.laidOut : laidOutB Try.prog = true := by kernel_rfl
theorem Try.cells5 : Try.prog.cellsOf 5 = 1 := by kernel_rfl
theorem Try.cells4 : Try.prog.cellsOf 4 = 1 := by kernel_rfl

theorem came_row {w : World} {x : Addr} {len cap : Nat} {cs : List Value} (hl : cs.length = len) (hc : ∀ i v, cs[i]? = some v → w.cell? (x.add i) = some v) : Came w (some x) len cap cs := by
  refine ⟨hl.symm, fun j v hv => ?_, fun e => by cases e⟩
  obtain ⟨b, o, spot⟩ := x
  have h1 := hc j v hv
  have hj : j < cs.length := (List.getElem?_eq_some_iff.1 hv).1
  have h0 : spot = none := by simpa [Addr.add] using World.cell?_spot (hc 0 _ (List.getElem?_eq_getElem (by omega)))
  subst h0
  exact ⟨b, o, rfl, by rw [← Addr.add_mid]; exact h1⟩

theorem came_bytes {H : Type} {enc : TypeId × Value → H} {w : World} {a : Option Addr} {len cap : Nat} {d : DataW H} {p : List MemPlace}
    (h : DataW.Trod enc Try.prog w 0 (fun _ => true) true 22 (.slice a len cap) d p) : ∃ zs, Came w a len cap (U8s zs) := by
  obtain ⟨fuel, hf⟩ := h
  rcases open_ints Try.underlying22 Try.underlying5 Try.cells5 hf with ⟨hcs, _⟩ | ⟨x, l, c, zs, hcs, _, hl, hm, hz, _, hcell, hwz⟩
  · simp [Value.cells] at hcs
    obtain ⟨rfl, rfl, rfl⟩ := hcs
    exact ⟨[], rfl, Lies.nil _ _, fun _ => ⟨rfl, rfl⟩⟩
  · simp [Value.cells] at hcs
    obtain ⟨rfl, rfl, rfl⟩ := hcs
    have hz' : zs.length = cap := by simpa using hz
    refine ⟨zs.take len, came_row (by rw [length_U8s, List.length_take]; omega) fun i v hv => ?_⟩
    have hi : i < (U8s (zs.take len)).length := (List.getElem?_eq_some_iff.1 hv).1
    rw [length_U8s, List.length_take] at hi
    rw [U8s_at (by rw [List.length_take]; exact hi)] at hv
    rw [hcell i (by omega), ← hv]
    simp [List.getD, show i < len by omega]

theorem came_bools {H : Type} {enc : TypeId × Value → H} {w : World} {a : Option Addr} {len cap : Nat} {d : DataW H} {p : List MemPlace}
    (h : DataW.Trod enc Try.prog w 0 (fun _ => true) true 23 (.slice a len cap) d p) : ∃ ks, Came w a len cap (Bs ks) := by
  obtain ⟨fuel, hf⟩ := h
  rcases Deep.open_bools Try.underlying23 Try.underlying4 Try.cells4 hf with ⟨hcs, _⟩ | ⟨x, l, c, B, hcs, _, hl, hm, _, hcell⟩
  · simp [Value.cells] at hcs
    obtain ⟨rfl, rfl, rfl⟩ := hcs
    exact ⟨[], rfl, Lies.nil _ _, fun _ => ⟨rfl, rfl⟩⟩
  · simp [Value.cells] at hcs
    obtain ⟨rfl, rfl, rfl⟩ := hcs
    refine ⟨(List.range len).map B, came_row (by rw [length_Bs]; simp) fun i v hv => ?_⟩
    have hi : i < (Bs ((List.range len).map B)).length := (List.getElem?_eq_some_iff.1 hv).1
    rw [length_Bs] at hi
    rw [Bs_at hi] at hv
    simp at hi
    rw [hcell i (by omega), ← hv]
    simp [hi]

end Go.Proofs.Qxb6000731a
