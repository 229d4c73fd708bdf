/-
  PARTS: what the walks over 'shape' and its laws say of memory, and the plain functions that they compute. No project text.
-/
import Derived.WalkKit
import Derived.Deep.MidRow
namespace Go.Proofs.Qxb6000731a
open Go.RowKit

/-- The call answers one bool, and says whether p. -/
def Says (p : Prop) (e : Ending) : Prop := ∃ r : Bool, e = .returned (.bool r) ∧ (r = true ↔ p)
theorem Says.yes {p : Prop} {e : Ending} (he : e = .returned (.bool true)) (h : p) : Says p e := ⟨true, he, by simp [h]⟩
theorem Says.no {p : Prop} {e : Ending} (he : e = .returned (.bool false)) (h : ¬ p) : Says p e := ⟨false, he, by simp [h]⟩

/-- The slice that begins at 'a' reads, in w, as the cells 'cs'. -/
def Lies (w : World) (a : Option Addr) (cs : List Value) : Prop := ∀ j v, cs[j]? = some v → ∃ b o, a = some ⟨b, o, none⟩ ∧ w.cell? ⟨b, o + j, none⟩ = some v

theorem Lies.below {w w' : World} {a : Option Addr} {cs : List Value} (h : Lies w a cs) (hb : Below w.heap.size w w') : Lies w' a cs := fun j v hv => by
  obtain ⟨b, o, rfl, hc⟩ := h j v hv
  exact ⟨b, o, rfl, by rw [hb.cell (p := ⟨b, o + j, none⟩) (World.block_lt_of_cell? w _ hc)]; exact hc⟩

theorem Lies.nil (w : World) (a : Option Addr) : Lies w a [] := fun j v hv => by simp at hv

theorem Lies.range {w : World} {b o : Nat} {cs : List Value} (h : w.rangeAt b o cs) : Lies w (some ⟨b, o, none⟩) cs := fun j v hv => ⟨b, o, rfl, h j v hv⟩

/-! ### Bytes, bools, tuples, columns -/
def U8s (zs : List Int) : List Value := zs.map (Value.int .u8)
def Bs (ks : List Bool) : List Value := ks.map Value.bool
theorem length_U8s (zs : List Int) : (U8s zs).length = zs.length := by simp [U8s]
theorem length_Bs (ks : List Bool) : (Bs ks).length = ks.length := by simp [Bs]
theorem U8s_append (xs ys : List Int) : U8s (xs ++ ys) = U8s xs ++ U8s ys := by simp [U8s]
theorem U8s_at {zs : List Int} {k : Nat} (h : k < zs.length) : (U8s zs)[k]? = some (.int .u8 (zs[k]?.getD 0)) := by simp [U8s, h]
theorem Bs_at {ks : List Bool} {k : Nat} (h : k < ks.length) : (Bs ks)[k]? = some (.bool (ks[k]?.getD false)) := by simp [Bs, h]
theorem U8s_one (zs : List Int) : ∀ v ∈ U8s zs, v.oneCell' = true := by
  intro v hv
  obtain ⟨_, _, rfl⟩ := List.mem_map.1 hv
  rfl
theorem Bs_one (ks : List Bool) : ∀ v ∈ Bs ks, v.oneCell' = true := by
  intro v hv
  obtain ⟨_, _, rfl⟩ := List.mem_map.1 hv
  rfl

theorem Lies.u8 {w : World} {a : Option Addr} {zs : List Int} (h : Lies w a (U8s zs)) {k : Nat} (hk : k < zs.length) : ∃ b o, a = some ⟨b, o, none⟩ ∧ w.cell? ⟨b, o + k, none⟩ = some (.int .u8 (zs[k]?.getD 0)) :=
  h k _ (U8s_at hk)
theorem Lies.bool {w : World} {a : Option Addr} {ks : List Bool} (h : Lies w a (Bs ks)) {k : Nat} (hk : k < ks.length) : ∃ b o, a = some ⟨b, o, none⟩ ∧ w.cell? ⟨b, o + k, none⟩ = some (.bool (ks[k]?.getD false)) :=
  h k _ (Bs_at hk)

def tup1 (k : Int) : List Value := [.int .u8 k, .slice none 0 0]
def col1 (k : Bool) : List Value := [.string ByteArray.empty, .bool k, .int .u32 0, .int .i32 0]
def tupCells (ks : List Int) : List Value := ks.flatMap tup1
def colCells (ks : List Bool) : List Value := ks.flatMap col1

theorem length_tup (ks : List Int) : (tupCells ks).length = ks.length * 2 := by
  induction ks with
  | nil => rfl
  | cons k r ih => simp [tupCells, tup1] at ih ⊢; omega
theorem length_col (ks : List Bool) : (colCells ks).length = ks.length * 4 := by
  induction ks with
  | nil => rfl
  | cons k r ih => simp [colCells, col1] at ih ⊢; omega

theorem tup_at (ks : List Int) (k j : Nat) (hk : k < ks.length) (hj : j < 2) : (tupCells ks)[k * 2 + j]? = (tup1 (ks[k]?.getD 0))[j]? := by
  induction ks generalizing k with
  | nil => simp at hk
  | cons x r ih =>
    show (tup1 x ++ tupCells r)[k * 2 + j]? = _
    cases k with
    | zero => rw [List.getElem?_append_left (by simp [tup1]; omega)]; simp
    | succ k =>
      rw [List.getElem?_append_right (by simp [tup1]; omega)]
      have e : (k + 1) * 2 + j - (tup1 x).length = k * 2 + j := by simp [tup1]; omega
      rw [e, ih k (by simpa using hk)]
      simp
theorem col_at (ks : List Bool) (k j : Nat) (hk : k < ks.length) (hj : j < 4) : (colCells ks)[k * 4 + j]? = (col1 (ks[k]?.getD false))[j]? := by
  induction ks generalizing k with
  | nil => simp at hk
  | cons x r ih =>
    show (col1 x ++ colCells r)[k * 4 + j]? = _
    cases k with
    | zero => rw [List.getElem?_append_left (by simp [col1]; omega)]; simp
    | succ k =>
      rw [List.getElem?_append_right (by simp [col1]; omega)]
      have e : (k + 1) * 4 + j - (col1 x).length = k * 4 + j := by simp [col1]; omega
      rw [e, ih k (by simpa using hk)]
      simp

theorem Lies.tup {w : World} {a : Option Addr} {ks : List Int} (h : Lies w a (tupCells ks)) {k : Nat} (hk : k < ks.length) : ∃ b o, a = some ⟨b, o, none⟩ ∧
    w.cell? ⟨b, o + k * 2, none⟩ = some (.int .u8 (ks[k]?.getD 0)) ∧ w.cell? ⟨b, o + k * 2 + 1, none⟩ = some (.slice none 0 0) := by
  obtain ⟨b, o, rfl, h0⟩ := h (k * 2 + 0) _ (tup_at ks k 0 hk (by omega))
  obtain ⟨b', o', e, h1⟩ := h (k * 2 + 1) _ (tup_at ks k 1 hk (by omega))
  cases e
  exact ⟨b, o, rfl, by simpa using h0, by simpa [Nat.add_assoc] using h1⟩
theorem Lies.col {w : World} {a : Option Addr} {ks : List Bool} (h : Lies w a (colCells ks)) {k : Nat} (hk : k < ks.length) : ∃ b o, a = some ⟨b, o, none⟩ ∧
    w.cell? ⟨b, o + k * 4, none⟩ = some (.string ByteArray.empty) ∧ w.cell? ⟨b, o + k * 4 + 1, none⟩ = some (.bool (ks[k]?.getD false)) ∧
    w.cell? ⟨b, o + k * 4 + 1 + 1, none⟩ = some (.int .u32 0) ∧ w.cell? ⟨b, o + k * 4 + 1 + 1 + 1, none⟩ = some (.int .i32 0) := by
  obtain ⟨b, o, rfl, h0⟩ := h (k * 4 + 0) _ (col_at ks k 0 hk (by omega))
  obtain ⟨_, _, e, h1⟩ := h (k * 4 + 1) _ (col_at ks k 1 hk (by omega))
  cases e
  obtain ⟨_, _, e, h2⟩ := h (k * 4 + 2) _ (col_at ks k 2 hk (by omega))
  cases e
  obtain ⟨_, _, e, h3⟩ := h (k * 4 + 3) _ (col_at ks k 3 hk (by omega))
  cases e
  exact ⟨b, o, rfl, by simpa using h0, by simpa [Nat.add_assoc] using h1, by simpa [Nat.add_assoc] using h2, by simpa [Nat.add_assoc] using h3⟩

/-- A relation: its columns' slice in its fourth cell; the columns lie there. -/
def RelAt (w : World) (g : Nat) (ks : List Bool) : Prop := ∃ ca, w.cell? ⟨g, 3, none⟩ = some (.slice ca ks.length ks.length) ∧ Lies w ca (colCells ks)
theorem RelAt.below {w w' : World} {g : Nat} {ks : List Bool} (h : RelAt w g ks) (hb : Below w.heap.size w w') : RelAt w' g ks := by
  obtain ⟨ca, h1, h2⟩ := h
  exact ⟨ca, by rw [hb.cell (p := ⟨g, 3, none⟩) (World.block_lt_of_cell? w _ h1)]; exact h1, h2.below hb⟩

/-! ### A row of bytes of the call's own -/
def Own (B : Nat) (w : World) (v : Value) (L : List Int) : Prop := w.ownsRow B 5 1 v L.length (U8s L)

theorem Own.lies {B : Nat} {w : World} {v : Value} {L : List Int} (h : Own B w v L) : ∃ a c, v = .slice a L.length c ∧ Lies w a (U8s L) := by
  rcases h.2 with ⟨rfl, hn⟩ | ⟨g, cap, cur, hv, _, hg, _, _, hs, ht⟩
  · rw [List.eq_nil_of_length_eq_zero hn]
    exact ⟨none, 0, rfl, Lies.nil _ _⟩
  · subst hv
    refine ⟨some ⟨g, 0, none⟩, cap, rfl, Lies.range fun j u hu => ?_⟩
    have := World.ownsRow.cells h (g := g) rfl j u hu
    rwa [Addr.add_mid] at this

theorem Own.alloc {B : Nat} {w : World} {v : Value} {L : List Int} (h : Own B w v L) (o : Obj) : Own B (w.alloc o) v L := World.ownsRow.alloc h o

/-! ### The plain functions -/
/-- Every key column has a place in a row of m values. -/
def Cov (ks : List Bool) (m : Nat) : Prop := ∀ i, i < ks.length → m ≤ i → ks[i]?.getD false = false
def marks (ns : List Int) : List Int := ns.map fun k => if k = 117 then 117 else 115
/-- The kinds, in the old row, of the key columns below k. -/
def kinds (ks : List Bool) (os : List Int) (k : Nat) : List Int := ((List.range k).filter fun i => ks[i]?.getD false).map fun i => os[i]?.getD 0
/-- What 'shape' appends. -/
def shp (ks : List Bool) (op : Int) (os ns : List Int) : List Int :=
  if op = 73 then [op] else if op = 85 then op :: (marks ns ++ 47 :: kinds ks os ks.length) else op :: kinds ks os ks.length

theorem marks_take_succ (ns : List Int) (k : Nat) (hk : k < ns.length) : marks (ns.take (k + 1)) = marks (ns.take k) ++ [if ns[k]?.getD 0 = 117 then 117 else 115] := by
  rw [List.take_succ_eq_append_getElem hk]
  simp only [marks, List.map_append, List.map_cons, List.map_nil, List.getElem?_eq_getElem hk, Option.getD_some]
theorem kinds_yes {ks : List Bool} {os : List Int} {k : Nat} (h : ks[k]?.getD false = true) : kinds ks os (k + 1) = kinds ks os k ++ [os[k]?.getD 0] := by
  simp only [kinds, List.range_succ, List.filter_append, List.map_append]
  simp only [List.filter_cons, h, List.filter_nil, if_true, List.map_cons, List.map_nil]
theorem kinds_no {ks : List Bool} {os : List Int} {k : Nat} (h : ks[k]?.getD false = false) : kinds ks os (k + 1) = kinds ks os k := by
  simp only [kinds, List.range_succ, List.filter_append, List.map_append]
  simp [h]
theorem kinds_le (ks : List Bool) (os : List Int) (k : Nat) : (kinds ks os k).length ≤ k := by
  have := List.length_filter_le (fun i => ks[i]?.getD false) (List.range k)
  simpa [kinds] using this

theorem ne_at {l m : List Int} {k : Nat} (h : ¬ l[k]?.getD 0 = m[k]?.getD 0) : ¬ l = m := fun e => h (by rw [e])
theorem eq_all {l m : List Int} (hl : l.length = m.length) (h : ∀ i, i < l.length → l[i]?.getD 0 = m[i]?.getD 0) : l = m := by
  apply List.ext_getElem?
  intro i
  by_cases hi : i < l.length
  · have := h i hi
    rw [List.getElem?_eq_getElem hi, List.getElem?_eq_getElem (by omega)] at this ⊢
    simpa using this
  · rw [List.getElem?_eq_none (by omega), List.getElem?_eq_none (by omega)]

end Go.Proofs.Qxb6000731a
