/-
  THE HEAD OF THE DUMP, READ BY WORDS: its text is long, and the kernel, asked to spell it ('initOrder.toList'), wants more memory than the lid allows. Here its signs are laid as numbers; of the words only the first three are looked at.
-/
import Derived.Test.Qxb6000731aRows
import Derived.JoinedOf
import Derived.ProofKit
namespace Go.Proofs.Qxb6000731a

theorem wordsSigns_word (w : List Char) (hw : ∀ c ∈ w, c ≠ ' ') (r : List Char) : wordsSigns (w ++ ' ' :: r) = w :: wordsSigns r := by
  induction w with
  | nil => simp [wordsSigns]
  | cons c w ih =>
    have hc : c ≠ ' ' := hw c (by simp)
    have := ih (fun x hx => hw x (by simp [hx]))
    rw [List.cons_append, wordsSigns, this]
    exact hc

def headA : List Nat := [104, 97, 114, 110, 101, 115, 115]
def headB : List Nat := [100, 55, 100, 99, 100, 100, 101, 53, 48, 54, 50, 56, 52, 101, 57, 51, 101, 48, 51, 49, 52, 100, 49, 98, 52, 48, 51, 55, 49, 102, 52, 48, 56, 52, 52, 49, 53, 57, 51, 49, 98, 57, 99, 102, 98, 48, 101, 55, 98, 49, 54, 99, 51, 99, 48, 56, 53, 97, 102, 53, 48, 97, 97, 99]
def headC : List Nat := [99, 117, 116]
def headR : List Nat := [97, 116, 32, 101, 120, 97, 109, 112, 108, 101, 46, 99, 111, 109, 47, 115, 101, 97, 109, 108, 105, 110, 101, 47, 115, 101, 97, 109, 108, 105, 110, 101, 47, 122, 122, 108, 97, 119, 115, 95, 105, 110, 116, 101, 114, 110, 97, 108, 95, 112, 111, 115, 116, 103, 114, 101, 115, 95, 112, 103, 116, 97, 114, 103, 101, 116, 95, 98, 49, 46, 70, 110, 83, 104, 97, 112, 101, 65, 112, 112, 101, 110, 100, 115, 84, 111, 66, 32, 101, 120, 97, 109, 112, 108, 101, 46, 99, 111, 109, 47, 115, 101, 97, 109, 108, 105, 110, 101, 47, 115, 101, 97, 109, 108, 105, 110, 101, 47, 122, 122, 108, 97, 119, 115, 95, 105, 110, 116, 101, 114, 110, 97, 108, 95, 112, 111, 115, 116, 103, 114, 101, 115, 95, 112, 103, 116, 97, 114, 103, 101, 116, 95, 98, 49, 46, 70, 110, 83, 104, 97, 112, 101, 85, 112, 100, 97, 116, 101, 73, 110, 106, 101, 99, 116, 105, 118, 101, 32, 101, 120, 97, 109, 112, 108, 101, 46, 99, 111, 109, 47, 115, 101, 97, 109, 108, 105, 110, 101, 47, 115, 101, 97, 109, 108, 105, 110, 101, 47, 122, 122, 108, 97, 119, 115, 95, 105, 110, 116, 101, 114, 110, 97, 108, 95, 112, 111, 115, 116, 103, 114, 101, 115, 95, 112, 103, 116, 97, 114, 103, 101, 116, 95, 98, 49, 46, 70, 110, 83, 104, 97, 112, 101, 73, 103, 110, 111, 114, 101, 115, 87, 104, 97, 116, 73, 116, 78, 101, 101, 100, 78, 111, 116, 32, 101, 120, 97, 109, 112, 108, 101, 46, 99, 111, 109, 47, 115, 101, 97, 109, 108, 105, 110, 101, 47, 115, 101, 97, 109, 108, 105, 110, 101, 47, 122, 122, 108, 97, 119, 115, 95, 105, 110, 116, 101, 114, 110, 97, 108, 95, 112, 111, 115, 116, 103, 114, 101, 115, 95, 112, 103, 116, 97, 114, 103, 101, 116, 95, 98, 49, 46, 70, 110, 65, 114, 114, 97, 121, 115, 82, 111, 117, 110, 100, 84, 114, 105, 112, 32, 101, 120, 97, 109, 112, 108, 101, 46, 99, 111, 109, 47, 115, 101, 97, 109, 108, 105, 110, 101, 47, 115, 101, 97, 109, 108, 105, 110, 101, 47, 122, 122, 108, 97, 119, 115, 95, 105, 110, 116, 101, 114, 110, 97, 108, 95, 112, 111, 115, 116, 103, 114, 101, 115, 95, 112, 103, 116, 97, 114, 103, 101, 116, 95, 98, 49, 46, 70, 110, 65, 114, 114, 97, 121, 115, 80, 101, 114, 80, 97, 114, 97, 109, 32, 101, 120, 97, 109, 112, 108, 101, 46, 99, 111, 109, 47, 115, 101, 97, 109, 108, 105, 110, 101, 47, 115, 101, 97, 109, 108, 105, 110, 101, 47, 122, 122, 108, 97, 119, 115, 95, 105, 110, 116, 101, 114, 110, 97, 108, 95, 112, 111, 115, 116, 103, 114, 101, 115, 95, 112, 103, 116, 97, 114, 103, 101, 116, 95, 98, 49, 46, 70, 110, 65, 114, 114, 97, 121, 115, 83, 112, 108, 105, 116, 67, 104, 97, 110, 103, 101, 115, 32, 101, 120, 97, 109, 112, 108, 101, 46, 99, 111, 109, 47, 115, 101, 97, 109, 108, 105, 110, 101, 47, 115, 101, 97, 109, 108, 105, 110, 101, 47, 122, 122, 108, 97, 119, 115, 95, 105, 110, 116, 101, 114, 110, 97, 108, 95, 112, 111, 115, 116, 103, 114, 101, 115, 95, 112, 103, 116, 97, 114, 103, 101, 116, 95, 98, 49, 46, 70, 110, 87, 105, 116, 104, 70, 114, 97, 99, 116, 105, 111, 110, 83, 112, 101, 99, 32, 101, 120, 97, 109, 112, 108, 101, 46, 99, 111, 109, 47, 115, 101, 97, 109, 108, 105, 110, 101, 47, 115, 101, 97, 109, 108, 105, 110, 101, 47, 122, 122, 108, 97, 119, 115, 95, 105, 110, 116, 101, 114, 110, 97, 108, 95, 112, 111, 115, 116, 103, 114, 101, 115, 95, 112, 103, 116, 97, 114, 103, 101, 116, 95, 98, 49, 46, 70, 110, 87, 105, 116, 104, 70, 114, 97, 99, 116, 105, 111, 110, 73, 100, 101, 109, 112, 111, 116, 101, 110, 116, 32, 101, 120, 97, 109, 112, 108, 101, 46, 99, 111, 109, 47, 115, 101, 97, 109, 108, 105, 110, 101, 47, 115, 101, 97, 109, 108, 105, 110, 101, 47, 122, 122, 108, 97, 119, 115, 95, 105, 110, 116, 101, 114, 110, 97, 108, 95, 112, 111, 115, 116, 103, 114, 101, 115, 95, 112, 103, 116, 97, 114, 103, 101, 116, 95, 98, 49, 46, 70, 110, 87, 105, 116, 104, 70, 114, 97, 99, 116, 105, 111, 110, 77, 97, 120]
theorem Try.head_is : Try.pinned.checked.prog.initOrder = String.ofList (List.map Char.ofNat (headA ++ 32 :: (headB ++ 32 :: (headC ++ 32 :: headR)))) := by kernel_rfl

theorem noBlank {l : List Nat} (h : (l.all fun n => Char.ofNat n != ' ') = true) : ∀ c ∈ List.map Char.ofNat l, c ≠ ' ' := by
  intro c hc
  obtain ⟨n, hn, rfl⟩ := List.mem_map.1 hc
  have := List.all_eq_true.1 h n hn
  simpa using this

theorem Try.head_words : ∃ r, wordsSigns Try.pinned.checked.prog.initOrder.toList = List.map Char.ofNat headA :: List.map Char.ofNat headB :: List.map Char.ofNat headC :: r := by
  refine ⟨wordsSigns (List.map Char.ofNat headR), ?_⟩
  rw [Try.head_is, String.toList_ofList, List.map_append, List.map_cons, List.map_append, List.map_cons, List.map_append, List.map_cons]
  show wordsSigns (List.map Char.ofNat headA ++ ' ' :: (List.map Char.ofNat headB ++ ' ' :: (List.map Char.ofNat headC ++ ' ' :: List.map Char.ofNat headR))) = _
  rw [wordsSigns_word _ (noBlank (by kernel_rfl)), wordsSigns_word _ (noBlank (by kernel_rfl)), wordsSigns_word _ (noBlank (by kernel_rfl))]

def wordC : List Char := List.map Char.ofNat headC
theorem behindWord (r : List (List Char)) : behindMainWord (List.map Char.ofNat headA :: List.map Char.ofNat headB :: wordC :: r) = wordC :: r := by kernel_rfl
theorem Try.behind : ∃ r, behindMainWord (wordsSigns Try.pinned.checked.prog.initOrder.toList) = wordC :: r := by
  obtain ⟨r, hr⟩ := Try.head_words
  exact ⟨r, by rw [hr]; exact behindWord r⟩
theorem c_gc : (wordC == "gc".toList) = false := by kernel_rfl
theorem c_spec : (wordC == "spec".toList) = false := by kernel_rfl
theorem c_cut : (wordC == "cut".toList) = true := by kernel_rfl
theorem c_carried : (wordC == "carried".toList) = false := by kernel_rfl
theorem c_head : (some wordC == some "cut".toList) = true := by kernel_rfl
theorem c_head2 : (some wordC == some "carried".toList) = false := by kernel_rfl
theorem c_strip (r : List (List Char)) : stripLifts liftWords (wordC :: r) = ([], wordC :: r) := by kernel_rfl
theorem Try.laysLater : Try.pinned.checked.prog.laysLater = false := by kernel_rfl
theorem Try.bearsReflect : Try.pinned.checked.prog.bearsReflect = false := by kernel_rfl
theorem Try.doorFits : Try.pinned.checked.prog.doorFits [] = true := by kernel_rfl
/-- (Over a program that is a variable: else the kernel spells the head.) -/
theorem mayEnter_of (P : Program) (r : List (List Char)) (hr : behindMainWord (wordsSigns P.initOrder.toList) = wordC :: r) (h1 : P.laysLater = false) (h2 : P.bearsReflect = false) (h3 : P.doorFits [] = true) : P.mayEnter = true := by
  unfold Program.mayEnter
  rw [hr]
  simp only [c_gc, c_spec, c_carried, c_strip, Bool.or_false, Bool.false_and, Bool.false_or, List.head?_cons, c_head, h1, h2, h3]
  rfl
theorem liftsFinal_of (P : Program) (r : List (List Char)) (hr : behindMainWord (wordsSigns P.initOrder.toList) = wordC :: r) : P.liftsFinal = false := by
  unfold Program.liftsFinal Program.headLifts
  rw [hr]
  simp only [c_strip, List.head?_cons, c_head, c_head2]
  rfl
theorem make_of (P : Program) (r : List (List Char)) (hr : behindMainWord (wordsSigns P.initOrder.toList) = wordC :: r) : P.make = some .cut := by
  unfold Program.make
  rw [hr]
  simp only [c_gc, c_spec, c_cut, Bool.or_false, Bool.true_or, if_true, Bool.false_eq_true, if_false]

theorem Try.mayEnter : Try.pinned.checked.prog.mayEnter = true := by
  obtain ⟨r, hr⟩ := Try.behind
  exact mayEnter_of _ r hr Try.laysLater Try.bearsReflect Try.doorFits
theorem Try.liftsFinal : Try.pinned.checked.prog.liftsFinal = false := by
  obtain ⟨r, hr⟩ := Try.behind
  exact liftsFinal_of _ r hr
theorem Try.make : Try.pinned.checked.prog.make = some .cut := by
  obtain ⟨r, hr⟩ := Try.behind
  exact make_of _ r hr

theorem and_mk {a b : Bool} (ha : a = true) (hb : b = true) : (a && b) = true := by rw [ha, hb]; rfl

/-- The row's closed facts, each by itself (over a program that is a variable); the three on the head out of the above. -/
theorem facts_mk (P : Program) (f : FuncId) (fn : Func) (s : ChangeSpec) (c : OpenClaim) (k1 : (c.wf (OpenSpec.ofChange s)) = true) (k2 : (laidOutB P) = true) (k3 : (mapsRowed P) = true) (k4 : (fn.params.all (P.readableRec ·)) = true) (k5 : (namedTie P c.named s.vars) = true) (k6 : ((c.stops == [])) = true) (k7 : ((P.stops == [])) = true) (k8 : ((c.knobs == [])) = true) (k9 : ((P.stopKnobs == [])) = true) (k10 : ((c.inPlace == P.inPlace f)) = true) (k11 : ((c.unfollowed == P.unfollowed f)) = true) (k12 : ((c.recurses == P.recurses f)) = true) (k13 : ((c.named == P.varsNamed f)) = true) (k14 : ((c.maps == (fn.params.toList ++ s.plain.varTypes P).any (P.mapsRec ·))) = true) (k15 : ((c.ifaces == (fn.params.toList ++ s.plain.varTypes P).any (P.ifacesRec ·))) = true) (k16 : ((c.mapsOut == P.mapsAmong fn.resultTypes.toList)) = true) (k17 : ((c.loops == (fn.params.toList ++ s.plain.varTypes P).any (P.loopsFrom ·))) = true) (k18 : ((c.wideKeys == (fn.params.toList ++ s.plain.varTypes P ++ fn.resultTypes.toList).any (P.wideKeysFrom ·))) = true) (k19 : (s.vars.all (P.varReadable ·)) = true) (k20 : (fn.resultTypes.all (fun t => P.readableRec t && decide (t < P.types.size))) = true) (k21 : ((c.ifacesOut == fn.resultTypes.toList.any (P.ifacesRec ·))) = true) (k22 : ((c.loopsOut == fn.resultTypes.toList.any (P.loopsFrom ·))) = true) (k23 : ((c.plainKeys == P.plainKeys)) = true) (k24 : (c.shortTexts.isNone) = true) (k25 : (P.stopsHeard) = true) (k29 : ((c.kinds == (if c.domain.isEmpty then [] else fn.params.toList.map fun t => match P.underlying t with | some (.int k) => some k | _ => none))) = true) (k30 : ((c.pinned == c.pinnedBy)) = true) (k31 : ((c.veiled == (fn.params.toList ++ s.plain.varTypes P ++ fn.resultTypes.toList).any (P.veiledRec ·))) = true) (k32 : (c.veiledFits P fn.params.toList (fn.params.toList ++ s.plain.varTypes P ++ fn.resultTypes.toList)) = true)
    (k26 : P.mayEnter = true) (k27 : P.liftsFinal = false) (k28 : P.make = some .cut) (hl : c.lifted = false) (hm : c.make = .cut) : joinedFacts P f fn s c = true := by
  have k27' : (c.lifted == P.liftsFinal) = true := by rw [k27, hl]; rfl
  have k28' : (P.make == some c.make) = true := by rw [k28, hm]; decide
  unfold joinedFacts
  exact and_mk (and_mk (and_mk (and_mk (and_mk (and_mk (and_mk (and_mk (and_mk (and_mk (and_mk (and_mk (and_mk (and_mk (and_mk (and_mk (and_mk (and_mk (and_mk (and_mk (and_mk (and_mk (and_mk (and_mk (and_mk (and_mk (and_mk (and_mk (and_mk (and_mk (and_mk (k1) k2) k3) k4) k5) k6) k7) k8) k9) k10) k11) k12) k13) k14) k15) k16) k17) k18) k19) k20) k21) k22) k23) k24) k25) k26) k27') k28') k29) k30) k31) k32

end Go.Proofs.Qxb6000731a
