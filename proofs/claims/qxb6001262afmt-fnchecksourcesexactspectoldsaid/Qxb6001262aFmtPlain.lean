/-
  THE PLAIN LAW of FnCheckSourcesExactSpec: bytes in order, an insertion sort's invariant, and what a sorted list's equal neighbours tell. No project text.
-/
import GoSem.Op.String
namespace Go.Proofs.Qxb6001262aFmt

/-! ### The order of byte strings -/
theorem bl_irrefl : ∀ x : List UInt8, Op.bytesLess x x = false
  | [] => rfl
  | a :: x => by simp [Op.bytesLess, bl_irrefl x]
theorem bl_trans : ∀ x y z : List UInt8, Op.bytesLess x y = true → Op.bytesLess y z = true → Op.bytesLess x z = true
  | _, [], _, h, _ => by simp [Op.bytesLess] at h
  | _, _ :: _, [], _, h => by simp [Op.bytesLess] at h
  | [], _ :: _, _ :: _, _, _ => by simp [Op.bytesLess]
  | a :: x, b :: y, c :: z, h1, h2 => by
    simp only [Op.bytesLess, Bool.or_eq_true, Bool.and_eq_true, beq_iff_eq, decide_eq_true_eq] at h1 h2 ⊢
    rcases h1 with h1 | ⟨rfl, h1⟩
    · rcases h2 with h2 | ⟨rfl, h2⟩
      · exact .inl (UInt8.lt_trans h1 h2)
      · exact .inl h1
    · rcases h2 with h2 | ⟨rfl, h2⟩
      · exact .inl h2
      · exact .inr ⟨rfl, bl_trans x y z h1 h2⟩
theorem bl_total : ∀ x y : List UInt8, Op.bytesLess x y = false → Op.bytesLess y x = false → x = y
  | [], [], _, _ => rfl
  | [], _ :: _, h, _ => by simp [Op.bytesLess] at h
  | _ :: _, [], _, h => by simp [Op.bytesLess] at h
  | a :: x, b :: y, h1, h2 => by
    simp only [Op.bytesLess, Bool.or_eq_false_iff, Bool.and_eq_false_iff, decide_eq_false_iff_not, beq_eq_false_iff_ne] at h1 h2
    have hab : a = b := UInt8.le_antisymm (UInt8.not_lt.1 h2.1) (UInt8.not_lt.1 h1.1)
    subst hab
    rw [bl_total x y (h1.2.resolve_left (by simp)) (h2.2.resolve_left (by simp))]
theorem bl_asymm {x y : List UInt8} (h : Op.bytesLess x y = true) : Op.bytesLess y x = false := by
  cases h' : Op.bytesLess y x with
  | false => rfl
  | true => have := bl_trans x y x h h'; rw [bl_irrefl] at this; cases this

/-- a is not behind b. -/
def Le (a b : ByteArray) : Prop := Op.bytesLess b.toList a.toList = false
theorem Le.trans {a b c : ByteArray} (h1 : Le a b) (h2 : Le b c) : Le a c := by
  unfold Le at *
  cases h : Op.bytesLess c.toList a.toList with
  | false => rfl
  | true =>
    cases h3 : Op.bytesLess a.toList b.toList with
    | true => have := bl_trans _ _ _ h h3; rw [h2] at this; cases this
    | false => rw [bl_total _ _ h3 h1] at h; rw [h2] at h; cases h

/-! ### The insertion sort -/
def SortedTo (C : List ByteArray) (i : Nat) : Prop := (C.take i).Pairwise Le
/-- In the midst of carrying the i-th element to its place: it stands at j. -/
def InsAt (C : List ByteArray) (i j : Nat) : Prop :=
  ∃ A x B R, C = A ++ (x :: (B ++ R)) ∧ A.length = j ∧ j + B.length = i ∧ (A ++ B).Pairwise Le ∧ ∀ b ∈ B, Op.bytesLess x.toList b.toList = true

theorem InsAt.start {C : List ByteArray} {i : Nat} (h : SortedTo C i) (hi : i < C.length) : InsAt C i i := by
  refine ⟨C.take i, C[i], [], C.drop (i + 1), ?_, by rw [List.length_take]; omega, by simp, by rw [List.append_nil]; exact h, by simp⟩
  rw [List.nil_append, ← List.drop_eq_getElem_cons hi, List.take_append_drop]

/-- The two change places. -/
def swapAt (C : List ByteArray) (j : Nat) (x y : ByteArray) : List ByteArray := (C.set j y).set (j - 1) x

theorem InsAt.split {C : List ByteArray} {i j : Nat} {x y : ByteArray} (h : InsAt C i j) (hj : 0 < j) (hx : C[j]? = some x) (hy : C[j - 1]? = some y) :
    ∃ A B R, C = A ++ (y :: x :: (B ++ R)) ∧ A.length + 1 = j ∧ j + B.length = i ∧ (A ++ y :: B).Pairwise Le ∧ ∀ b ∈ B, Op.bytesLess x.toList b.toList = true := by
  obtain ⟨A, x', B, R, hC, hA, hB, hs, hlt⟩ := h
  obtain ⟨A', y', rfl⟩ : ∃ A' y', A = A' ++ [y'] := by
    rcases List.eq_nil_or_concat A with h0 | ⟨A', y', h0⟩
    · rw [h0] at hA; simp at hA; omega
    · exact ⟨A', y', by simpa using h0⟩
  have hA1 : A'.length + 1 = j := by simpa using hA
  have ex : x' = x := by
    rw [hC, List.getElem?_append_right (by omega)] at hx
    simpa [hA] using hx
  have ey : y' = y := by
    rw [hC, List.getElem?_append_left (by simp; omega), List.getElem?_append_right (by omega)] at hy
    have e0 : j - 1 - A'.length = 0 := by omega
    rw [e0] at hy
    simpa using hy
  subst ex ey
  exact ⟨A', B, R, by rw [hC]; simp, hA1, hB, by simpa using hs, hlt⟩

theorem swap_split {A Z : List ByteArray} {x y : ByteArray} {j : Nat} (hA : A.length + 1 = j) : swapAt (A ++ (y :: x :: Z)) j x y = A ++ (x :: y :: Z) := by
  unfold swapAt
  rw [List.set_append_right _ _ (by omega), List.set_append_right _ _ (by omega)]
  have e1 : j - A.length = 1 := by omega
  have e0 : j - 1 - A.length = 0 := by omega
  rw [e1, e0]
  rfl

theorem InsAt.step {C : List ByteArray} {i j : Nat} {x y : ByteArray} (h : InsAt C i j) (hj : 0 < j) (hx : C[j]? = some x) (hy : C[j - 1]? = some y) (hlt : Op.bytesLess x.toList y.toList = true) :
    InsAt (swapAt C j x y) i (j - 1) ∧ (swapAt C j x y).Perm C := by
  obtain ⟨A, B, R, rfl, hA, hB, hs, hb⟩ := h.split hj hx hy
  rw [swap_split hA]
  refine ⟨⟨A, x, y :: B, R, by simp, by omega, by simp; omega, hs, fun b hb' => ?_⟩, List.Perm.append_left A (List.Perm.swap _ _ _)⟩
  rcases List.mem_cons.1 hb' with rfl | hb'
  · exact hlt
  · exact hb b hb'

theorem InsAt.stop0 {C : List ByteArray} {i : Nat} (h : InsAt C i 0) : SortedTo C (i + 1) := by
  obtain ⟨A, x, B, R, rfl, hA, hB, hs, hlt⟩ := h
  obtain rfl := List.eq_nil_of_length_eq_zero hA
  have e : (([] : List ByteArray) ++ x :: (B ++ R)).take (i + 1) = x :: B := by
    simp [← hB]
  unfold SortedTo
  rw [e]
  exact List.pairwise_cons.2 ⟨fun b hb => bl_asymm (hlt b hb), by simpa using hs⟩

theorem InsAt.stop {C : List ByteArray} {i j : Nat} {x y : ByteArray} (h : InsAt C i j) (hj : 0 < j) (hx : C[j]? = some x) (hy : C[j - 1]? = some y) (hnot : Op.bytesLess x.toList y.toList = false) : SortedTo C (i + 1) := by
  obtain ⟨A, B, R, rfl, hA, hB, hs, hlt⟩ := h.split hj hx hy
  have e : (A ++ (y :: x :: (B ++ R))).take (i + 1) = A ++ (y :: x :: B) := by
    have : A ++ (y :: x :: (B ++ R)) = (A ++ (y :: x :: B)) ++ R := by simp
    rw [this, List.take_append_of_le_length (by simp; omega)]
    exact List.take_of_length_le (by simp; omega)
  unfold SortedTo
  rw [e]
  obtain ⟨h1, h2, h3⟩ := List.pairwise_append.1 hs
  obtain ⟨h4, h5⟩ := List.pairwise_cons.1 h2
  have hyx : Le y x := hnot
  refine List.pairwise_append.2 ⟨h1, List.pairwise_cons.2 ⟨fun b hb => ?_, List.pairwise_cons.2 ⟨fun b hb => bl_asymm (hlt b hb), h5⟩⟩, fun a ha b hb => ?_⟩
  · rcases List.mem_cons.1 hb with rfl | hb
    · exact hyx
    · exact h4 b hb
  · rcases List.mem_cons.1 hb with rfl | hb
    · exact h3 a ha _ (List.mem_cons_self)
    · rcases List.mem_cons.1 hb with rfl | hb
      · exact (h3 a ha y (List.mem_cons_self)).trans hyx
      · exact h3 a ha b (List.mem_cons_of_mem _ hb)

/-! ### What is asked of a list of sources -/
def NONE : List UInt8 := [78, 79, 78, 69]
def STORE : List UInt8 := [83, 84, 79, 82, 69]
def Good (T : List (List UInt8)) : Prop := ((∀ t ∈ T, t ≠ [] ∧ t ≠ NONE) ∧ T.Nodup) ∧ STORE ∈ T
theorem Good.perm {T U : List (List UInt8)} (h : T.Perm U) : Good T ↔ Good U := by
  unfold Good
  rw [h.nodup_iff, h.mem_iff]
  have : (∀ t ∈ T, t ≠ [] ∧ t ≠ NONE) ↔ ∀ t ∈ U, t ≠ [] ∧ t ≠ NONE := ⟨fun g t ht => g t (h.mem_iff.2 ht), fun g t ht => g t (h.mem_iff.1 ht)⟩
  rw [this]

/-- The list as the program looks at it: the k first are not refused, each against all before it. -/
def FineTo (T : List (List UInt8)) (k : Nat) : Prop := ∀ i t, i < k → T[i]? = some t → (t ≠ [] ∧ t ≠ NONE) ∧ t ∉ T.take i
theorem FineTo.succ {T : List (List UInt8)} {k : Nat} {t : List UInt8} (ht : T[k]? = some t) : FineTo T (k + 1) ↔ FineTo T k ∧ (t ≠ [] ∧ t ≠ NONE) ∧ t ∉ T.take k := by
  constructor
  · exact fun h => ⟨fun i u hi hu => h i u (by omega) hu, h k t (by omega) ht⟩
  · rintro ⟨h1, h2⟩ i u hi hu
    by_cases e : i = k
    · subst e; rw [ht] at hu; cases hu; exact h2
    · exact h1 i u (by omega) hu
theorem fine_iff (T : List (List UInt8)) : FineTo T T.length ↔ (∀ t ∈ T, t ≠ [] ∧ t ≠ NONE) ∧ T.Nodup := by
  constructor
  · intro h
    refine ⟨fun t ht => ?_, List.pairwise_iff_getElem.2 fun i j hi hj hij e => ?_⟩
    · obtain ⟨i, hi, rfl⟩ := List.getElem_of_mem ht
      exact (h i _ hi (List.getElem?_eq_getElem hi)).1
    · refine (h j _ hj (List.getElem?_eq_getElem hj)).2 ?_
      rw [← e]
      exact List.mem_take_iff_getElem.2 ⟨i, by omega, rfl⟩
  · rintro ⟨h1, h2⟩ i t hi ht
    obtain ⟨hi', rfl⟩ := List.getElem?_eq_some_iff.1 ht
    refine ⟨h1 _ (List.getElem_mem hi'), fun hm => ?_⟩
    obtain ⟨j, hj, e⟩ := List.mem_take_iff_getElem.1 hm
    exact List.pairwise_iff_getElem.1 h2 j i (by omega) hi' (by omega) e

/-- The sorted list as the model looks at it: the k first are not refused, each against its neighbour. -/
def ScanTo (T : List (List UInt8)) (k : Nat) : Prop := ∀ i t, i < k → T[i]? = some t → (t ≠ [] ∧ t ≠ NONE) ∧ (0 < i → T[i - 1]? ≠ some t)
theorem ScanTo.succ {T : List (List UInt8)} {k : Nat} {t : List UInt8} (ht : T[k]? = some t) : ScanTo T (k + 1) ↔ ScanTo T k ∧ (t ≠ [] ∧ t ≠ NONE) ∧ (0 < k → T[k - 1]? ≠ some t) := by
  constructor
  · exact fun h => ⟨fun i u hi hu => h i u (by omega) hu, h k t (by omega) ht⟩
  · rintro ⟨h1, h2⟩ i u hi hu
    by_cases e : i = k
    · subst e; rw [ht] at hu; cases hu; exact h2
    · exact h1 i u (by omega) hu

/-- In a sorted list whose neighbours differ each stands strictly ahead of all behind it. -/
theorem strict_of_sorted {C : List ByteArray} (hs : C.Pairwise Le) (hn : ∀ i, 0 < i → i < C.length → (C.map ByteArray.toList)[i - 1]? ≠ (C.map ByteArray.toList)[i]?) :
    C.Pairwise fun a b => Op.bytesLess a.toList b.toList = true := by
  induction C with
  | nil => exact List.Pairwise.nil
  | cons a C ih =>
    obtain ⟨h1, h2⟩ := List.pairwise_cons.1 hs
    have hrest := ih h2 fun i hi hl => by
      have := hn (i + 1) (by omega) (by simpa using hl)
      have e : i + 1 - 1 = (i - 1) + 1 := by omega
      rw [e] at this
      simpa using this
    refine List.pairwise_cons.2 ⟨?_, hrest⟩
    cases C with
    | nil => simp
    | cons b C =>
      have hne : a.toList ≠ b.toList := by
        have := hn 1 (by omega) (by simp)
        simpa using this
      have hab : Op.bytesLess a.toList b.toList = true := by
        cases h : Op.bytesLess a.toList b.toList with
        | true => rfl
        | false => exact absurd (bl_total _ _ h (h1 b (List.mem_cons_self))) hne
      intro c hc
      rcases List.mem_cons.1 hc with rfl | hc
      · exact hab
      · exact bl_trans _ _ _ hab ((List.pairwise_cons.1 hrest).1 c hc)

theorem scan_iff {C : List ByteArray} (hs : C.Pairwise Le) : ScanTo (C.map ByteArray.toList) C.length ↔ (∀ t ∈ C.map ByteArray.toList, t ≠ [] ∧ t ≠ NONE) ∧ (C.map ByteArray.toList).Nodup := by
  constructor
  · intro h
    refine ⟨fun t ht => ?_, ?_⟩
    · obtain ⟨i, hi, rfl⟩ := List.getElem_of_mem ht
      exact (h i _ (by simpa using hi) (List.getElem?_eq_getElem hi)).1
    · have hst := strict_of_sorted hs fun i hi hl e => by
        have hl' : i < (C.map ByteArray.toList).length := by simpa using hl
        have := (h i _ hl (List.getElem?_eq_getElem hl')).2 hi
        rw [e, List.getElem?_eq_getElem hl'] at this
        exact this rfl
      refine List.pairwise_iff_getElem.2 fun i j hi hj hij e => ?_
      have hab := List.pairwise_iff_getElem.1 hst i j (by simpa using hi) (by simpa using hj) hij
      simp only [List.getElem_map] at e
      rw [e, bl_irrefl] at hab
      cases hab
  · rintro ⟨h1, h2⟩ i t hi ht
    obtain ⟨hi', rfl⟩ := List.getElem?_eq_some_iff.1 ht
    refine ⟨h1 _ (List.getElem_mem hi'), fun h0 e => ?_⟩
    obtain ⟨hj, e'⟩ := List.getElem?_eq_some_iff.1 e
    exact List.pairwise_iff_getElem.1 h2 (i - 1) i hj hi' (by omega) e'

theorem good_of_scan {C S : List ByteArray} (hp : C.Perm S) (hs : C.Pairwise Le) : (ScanTo (C.map ByteArray.toList) C.length ∧ STORE ∈ C.map ByteArray.toList) ↔ Good (S.map ByteArray.toList) := by
  rw [scan_iff hs, ← Good.perm (hp.map ByteArray.toList)]
  rfl
theorem good_of_fine (T : List (List UInt8)) : (FineTo T T.length ∧ STORE ∈ T) ↔ Good T := by
  rw [fine_iff]
  rfl

end Go.Proofs.Qxb6001262aFmt
