/-
  THE PLAIN LAW of FnShapeUpdateInjective: no Go in sight.
-/
import Derived.Test.Qxb6000731aParts
namespace Go.Proofs.Qxb6000731a

/-- Of the columns below k the two new rows set the same. -/
def SameSet (ns1 ns2 : List Int) (k : Nat) : Prop := ∀ i, i < k → (ns1[i]?.getD 0 = 117 ↔ ns2[i]?.getD 0 = 117)
/-- Of the key columns below k the two old rows hold values of the same kind. -/
def SameKey (ks : List Bool) (os1 os2 : List Int) (k : Nat) : Prop := ∀ i, i < k → ks[i]?.getD false = true → os1[i]?.getD 0 = os2[i]?.getD 0

theorem marks_iff (ns1 ns2 : List Int) (hl : ns1.length = ns2.length) : marks ns1 = marks ns2 ↔ SameSet ns1 ns2 ns1.length := by
  have hm : (marks ns1).length = (marks ns2).length := by simp [marks, hl]
  have one : ∀ (ns : List Int) i, i < ns.length → (marks ns)[i]?.getD 0 = if ns[i]?.getD 0 = 117 then 117 else 115 := by
    intro ns i hi
    simp [marks, hi]
  constructor
  · intro h i hi
    have e := congrArg (fun l : List Int => l[i]?.getD 0) h
    rw [one ns1 i hi, one ns2 i (by omega)] at e
    by_cases h1 : ns1[i]?.getD 0 = 117 <;> by_cases h2 : ns2[i]?.getD 0 = 117 <;> simp [h1, h2] at e ⊢
  · intro h
    refine eq_all hm fun i hi => ?_
    have hi' : i < ns1.length := by simpa [marks] using hi
    rw [one ns1 i hi', one ns2 i (by omega)]
    simp only [h i hi']

theorem kinds_iff (ks : List Bool) (os1 os2 : List Int) (n : Nat) : kinds ks os1 n = kinds ks os2 n ↔ SameKey ks os1 os2 n := by
  unfold kinds
  rw [List.map_inj_left]
  constructor
  · intro h i hi hk
    exact h i (List.mem_filter.2 ⟨List.mem_range.2 hi, hk⟩)
  · intro h i hi
    obtain ⟨h1, h2⟩ := List.mem_filter.1 hi
    exact h i (List.mem_range.1 h1) h2

theorem shp_upd (ks : List Bool) (os ns : List Int) : shp ks 85 os ns = 85 :: (marks ns ++ 47 :: kinds ks os ks.length) := rfl

theorem shp_inj (ks : List Bool) (os1 ns1 os2 ns2 : List Int) : shp ks 85 os1 ns1 = shp ks 85 os2 ns2 ↔ (ns1.length = ns2.length ∧ SameSet ns1 ns2 ns1.length) ∧ SameKey ks os1 os2 ks.length := by
  rw [shp_upd, shp_upd]
  have hk : (kinds ks os1 ks.length).length = (kinds ks os2 ks.length).length := by simp [kinds]
  constructor
  · intro h
    have h1 := (List.cons.inj h).2
    have hl : ns1.length = ns2.length := by
      have := congrArg List.length h1
      simp [marks, hk] at this
      omega
    obtain ⟨h2, h3⟩ := List.append_inj h1 (by simp [marks, hl])
    exact ⟨⟨hl, (marks_iff ns1 ns2 hl).1 h2⟩, (kinds_iff ks os1 os2 _).1 (List.cons.inj h3).2⟩
  · rintro ⟨⟨hl, h1⟩, h2⟩
    rw [(marks_iff ns1 ns2 hl).2 h1, (kinds_iff ks os1 os2 _).2 h2]

/-- One column more. -/
theorem sameSet_succ {ns1 ns2 : List Int} {k : Nat} : SameSet ns1 ns2 (k + 1) ↔ SameSet ns1 ns2 k ∧ (ns1[k]?.getD 0 = 117 ↔ ns2[k]?.getD 0 = 117) := by
  constructor
  · exact fun h => ⟨fun i hi => h i (by omega), h k (by omega)⟩
  · rintro ⟨h1, h2⟩ i hi
    by_cases e : i = k
    · subst e; exact h2
    · exact h1 i (by omega)
theorem sameKey_succ {ks : List Bool} {os1 os2 : List Int} {k : Nat} : SameKey ks os1 os2 (k + 1) ↔ SameKey ks os1 os2 k ∧ (ks[k]?.getD false = true → os1[k]?.getD 0 = os2[k]?.getD 0) := by
  constructor
  · exact fun h => ⟨fun i hi => h i (by omega), h k (by omega)⟩
  · rintro ⟨h1, h2⟩ i hi
    by_cases e : i = k
    · subst e; exact h2
    · exact h1 i (by omega)

end Go.Proofs.Qxb6000731a
