/-
  WHAT THE THREE LAWS SHARE: what is told of an argument; ZZshape's result written out.
-/
import Derived.Test.Qxb6000731aMake
import Derived.Test.Qxb6000731aShape
namespace Go.Proofs.Qxb6000731a
open Go.RowKit

/-- What the walk is told of a slice that came in. -/
def Came (w : World) (a : Option Addr) (n c : Nat) (cs : List Value) : Prop := n = cs.length ∧ Lies w a cs ∧ (a = none → n = 0 ∧ c = 0)

theorem shp_pos (ks : List Bool) (op : Int) (os ns : List Int) : ∃ r, shp ks op os ns = op :: r := by
  unfold shp
  split
  · exact ⟨_, rfl⟩
  · split <;> exact ⟨_, rfl⟩

theorem kinds_len (ks : List Bool) (os os' : List Int) (k : Nat) : (kinds ks os k).length = (kinds ks os' k).length := by simp [kinds]

theorem shp_le (ks : List Bool) (op : Int) (os ns : List Int) : (shp ks op os ns).length ≤ ks.length + ns.length + 2 := by
  have := kinds_le ks os ks.length
  unfold shp
  split
  · simp
  · split
    · simp [marks]; omega
    · simp; omega

/-- ZZshape, its result written out. -/
theorem zzshape_row (op : Int) (ab : Option Addr) (zs : List Int) (n : Nat) (hn : n = zs.length) (g : Nat) (ks : List Bool) (ao an : Option Addr) (os ns : List Int) (no co nn cn M : Nat) (hno : no = os.length) (hnn : nn = ns.length) (hM : M = (shp ks op os ns).length) (w : World)
    (hz : n ≤ 70000) (hks : ks.length ≤ 70000) (hnl : nn ≤ 70000) (hcov : ¬ op = 73 → Cov ks no) (hrel : RelAt w g ks) (ho : Lies w ao (tupCells os)) (hnw : Lies w an (tupCells ns))
    (hab : ab = none → n = 0) (hb : Lies w ab (U8s zs)) :
    Calls Try.prog 18 #[.slice ab n n, .pointer (some ⟨g, 0, none⟩), .int .u8 op, .slice ao no co, .slice an nn cn] w fun e w' =>
      ∃ g' c', e = .returned (.slice (some ⟨g', 0, none⟩) (n + M) c') ∧ n + M ≤ c' ∧ w'.rangeAt g' 0 (U8s (zs ++ shp ks op os ns)) ∧ Below w.heap.size w w' := by
  refine (zzshape_any op ab zs n hn g ks ao an os ns no co nn cn hno hnn w hz hks hnl hcov hrel ho hnw hab hb).mono ?_
  rintro e w' ⟨v, rfl, h1, h2⟩
  have hl : (zs ++ shp ks op os ns).length = n + M := by rw [List.length_append, hn, hM]
  rcases h1.2 with ⟨_, h0⟩ | ⟨g', cap, cur, hv, _, hg, hc, _, _, _⟩
  · obtain ⟨r, hr⟩ := shp_pos ks op os ns
    rw [hr] at h0
    simp at h0
  · rw [hl] at hv hc
    subst hv
    refine ⟨g', cap, rfl, hc, fun j u hu => ?_, h2⟩
    have := World.ownsRow.cells h1 (g := g') rfl j u hu
    rwa [Addr.add_mid] at this

/-- The rest of a row. -/
theorem range_drop {w : World} {g : Nat} {xs ys : List Int} (h : w.rangeAt g 0 (U8s (xs ++ ys))) (n : Nat) (hn : n = xs.length) : w.rangeAt g n (U8s ys) := fun j v hv => by
  have := h (n + j) v (by rw [U8s_append, List.getElem?_append_right (by rw [length_U8s]; omega), length_U8s, hn, Nat.add_sub_cancel_left]; exact hv)
  rwa [Nat.zero_add] at this
theorem range_take {w : World} {g : Nat} {xs ys : List Int} (h : w.rangeAt g 0 (U8s (xs ++ ys))) : w.rangeAt g 0 (U8s xs) := fun j v hv => by
  have hj : j < (U8s xs).length := (List.getElem?_eq_some_iff.1 hv).1
  exact h j v (by rw [U8s_append, List.getElem?_append_left hj]; exact hv)
theorem range_below {w w' : World} {b o : Nat} {cs : List Value} (h : w.rangeAt b o cs) (hb : Below w.heap.size w w') : w'.rangeAt b o cs := fun j v hv => by
  have := h j v hv
  rw [hb.cell (p := ⟨b, o + j, none⟩) (World.block_lt_of_cell? w _ this)]; exact this

end Go.Proofs.Qxb6000731a
