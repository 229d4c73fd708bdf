/-
  THE WALK over lawWellFormed: a copy, an insertion sort, a look at equal neighbours.
-/
import Derived.Test.Qxb6001262aFmtSmall
import Derived.Deep.QuietTactic
import Derived.BigQuiet
namespace Go.Proofs.Qxb6001262aFmt
open Go.RowKit

/-- A flag that says whether p. -/
def Flag (p : Prop) (s : Value) : Prop := ∃ b : Bool, s = .bool b ∧ (b = true ↔ p)
theorem Flag.keep {p q : Prop} {b : Bool} (h : b = true ↔ p) (e : q ↔ p) : Flag q (.bool b) := ⟨b, rfl, h.trans e.symm⟩
theorem Flag.on {q : Prop} (h : q) : Flag q (.bool true) := ⟨true, rfl, by simp [h]⟩

set_option maxHeartbeats 2000000 in
theorem wf_any (a : Option Addr) (n c : Nat) (ss : List ByteArray) (hn : n = ss.length) (hb : n ≤ 4096) (w : World) (h : Lies w a ss) :
    Calls Tryf.prog 10 #[.slice a n c] w fun e w' => Says (Good (Ks ss)) e ∧ Below w.heap.size w w' := by
  have HN : Hid (n = ss.length) := hn
  clear hn
  obtain ⟨i0, hi, hz0, hz1, hz2⟩ := info_parts Tryf.infob9
  go_enter Tryf.func10, Tryf.ntmps10
  go_wp2_with (at_make; refine wpList_make_full _ rfl (.tmp 13) (.tmp 13) 22 rfl w.heap.size 9 i0 (.string ByteArray.empty) 1 Tryf.underlying22 hi hz0 hz1 .i64 .i64 _ _ n rfl rfl rfl rfl ?h1 ?h2 ?h3 ?_)
  case h1 => rw [hz2]; omega
  case h2 => unfold maxLen; omega
  case h3 => exact Nat.le_refl _
  intro w1 hown hgrow
  have hbel1 : Below w.heap.size w w1 := (Below.refl _ _).grown hgrow (Nat.le_refl _) (fun k hk => by cases hk)
  have hblk := made_blk hown
  clear hown hgrow hi hz0 hz1 hz2 i0
  go_wp2
  go_loopw [5] (fun i wr => ∃ (k : Nat) (L : List ByteArray), k ≤ n ∧ i = .int .i64 k ∧ Below w.heap.size w wr ∧ Blk wr w.heap.size L ∧ Hid (L.length = n ∧ L.take k = ss.take k)) (fun i _ => n - (intOf i).toNat)
  case atStart => exact ⟨0, _, Nat.zero_le _, rfl, hbel1, hblk, by simp [Hid]⟩
  case round =>
    obtain ⟨k, L, hk, rfl, hbel, hbk, HL⟩ := hrel
    clear hbel1 hblk
    by_cases hlt : k < n
    · obtain ⟨b, o, y, rfl, hy, hc⟩ := (h.below hbel).str (k := k) (by rw [← HN.out]; exact hlt)
      have HY : Hid (ss[k]? = some y) := hy
      clear hy
      obtain ⟨z, hz⟩ : ∃ z, L[k]? = some z := ⟨_, List.getElem?_eq_getElem (by rw [HL.out.1]; exact hlt)⟩
      obtain ⟨hcl, hfz⟩ := hbk.cell hz
      clear hz
      go_wp2
      go_roundw
      case rel => exact ⟨k + 1, L.set k y, by omega, by go_num, hbel.setCell (Nat.le_refl _) _, hbk.store k y, ⟨by rw [List.length_set]; exact HL.out.1, set_take (by rw [HL.out.1]; exact hlt) HL.out.2 HY.out⟩⟩
      case measure => simp [intOf]; omega
    · have e : L = ss := by
        have h1 := HL.out.1
        have h2 := HL.out.2
        have h3 := HN.out
        rw [List.take_of_length_le (by omega), List.take_of_length_le (by omega)] at h2
        exact h2
      rw [e] at hbk
      clear e HL h
      go_wp2
      obtain ⟨wA, hwA⟩ : ∃ x : World, x = wr := ⟨_, rfl⟩
      subst hwA
      clear hk hlt
      go_loopw [6] (fun s wr => ∃ (i : Nat) (C : List ByteArray), 1 ≤ i ∧ (i ≤ n ∨ i = 1) ∧ s = .int .i64 i ∧ Below w.heap.size w wr ∧ Blk wr w.heap.size C ∧ Hid (C.Perm ss ∧ SortedTo C i)) (fun s _ => n - (intOf s).toNat)
      case atStart =>
        refine ⟨1, ss, Nat.le_refl _, .inr rfl, rfl, hbel, hbk, List.Perm.refl _, ?_⟩
        unfold SortedTo
        cases ss with
        | nil => simp
        | cons x r => simp
      case round =>
        obtain ⟨i, C, hi1, hin, rfl, hbel2, hbk2, HC⟩ := hrel
        clear hbel hbk
        by_cases hlt : i < n
        · have hCn : Hid (C.length = n) := by
            show _ = _
            rw [HC.out.1.length_eq, ← HN.out]
          go_wp2_with fail
          obtain ⟨wB, hwB⟩ : ∃ x : World, x = wr := ⟨_, rfl⟩
          subst hwB
          go_loopw [7] (fun s wr => ∃ (j : Nat) (D : List ByteArray), j ≤ i ∧ s = .int .i64 j ∧ Below w.heap.size w wr ∧ Blk wr w.heap.size D ∧ Hid (D.Perm ss ∧ InsAt D i j)) (fun s _ => (intOf s).toNat)
          case atStart => exact ⟨i, C, Nat.le_refl _, rfl, hbel2, hbk2, HC.out.1, InsAt.start HC.out.2 (by rw [hCn.out]; exact hlt)⟩
          case round =>
            obtain ⟨j, D, hji, rfl, hbel3, hbk3, HD⟩ := hrel
            clear hbel2 hbk2 HC hCn
            by_cases hj : j = 0
            · have HS : Hid (SortedTo D (i + 1)) := by rw [hj] at HD; exact HD.out.2.stop0
              have hd : decide ((0 : Int) < (j : Int)) = false := decide_eq_false (by omega)
              have hd2 : decide (0 < j) = false := decide_eq_false (by omega)
              have HP : Hid (D.Perm ss) := HD.out.1
              clear HD hj
              go_wp2_with fail
              go_quiet (fail)
              go_wp2_with fail
              go_roundw
              case rel => exact ⟨i + 1, D, by omega, .inl (by omega), by go_num, below_drewN hbel3 _, hbk3.draw _, HP.out, HS.out⟩
              case measure => simp [intOf]; omega
            · obtain ⟨m, rfl⟩ : ∃ m, j = m + 1 := ⟨j - 1, by omega⟩
              clear hj
              have HDl : Hid (D.length = n) := by
                show _ = _
                rw [HD.out.1.length_eq, ← HN.out]
              obtain ⟨x, hx⟩ : ∃ x, D[m + 1]? = some x := ⟨_, List.getElem?_eq_getElem (by rw [HDl.out]; omega)⟩
              obtain ⟨y, hy⟩ : ∃ y, D[m]? = some y := ⟨_, List.getElem?_eq_getElem (by rw [HDl.out]; omega)⟩
              obtain ⟨cx, fx⟩ := hbk3.cell hx
              obtain ⟨cy, fy⟩ := hbk3.cell hy
              have HX : Hid (D[m + 1]? = some x) := hx
              have HY : Hid (D[m]? = some y) := hy
              clear hx hy
              have i0 : (0 : Int) < ((m + 1 : Nat) : Int) := by omega
              have i1 : ((m + 1 : Nat) : Int) < (n : Int) := by omega
              have i2 : (0 : Int) ≤ (m : Int) := by omega
              have i3 : (m : Int) < (n : Int) := by omega
              cases hlt3 : Op.bytesLess x.toList y.toList with
              | false =>
                have HS : Hid (SortedTo D (i + 1)) := HD.out.2.stop (by omega) HX.out HY.out hlt3
                have HP : Hid (D.Perm ss) := HD.out.1
                clear HD HX HY
                go_wp2_with fail
                go_quiet (fail)
                go_wp2_with fail
                go_roundw
                case rel => exact ⟨i + 1, D, by omega, .inl (by omega), by go_num, below_drewN hbel3 _, hbk3.draw _, HP.out, HS.out⟩
                case measure => simp [intOf]; omega
              | true =>
                have HS : Hid (InsAt (swapAt D (m + 1) x y) i m ∧ (swapAt D (m + 1) x y).Perm D) := HD.out.2.step (by omega) HX.out HY.out hlt3
                have HP : Hid (D.Perm ss) := HD.out.1
                clear HD HX HY
                go_wp2_with fail
                go_quiet (fail)
                go_wp2_with fail
                go_roundw
                case rel => exact ⟨m, swapAt D (m + 1) x y, by omega, by go_num, ((below_drewN hbel3 _).setCell (Nat.le_refl _) _).setCell (Nat.le_refl _) _, ((hbk3.draw _).store (m + 1) y).store m x, HS.out.2.trans HP.out, HS.out.1⟩
                case measure => simp [intOf]
        · go_wp2_with fail
          have HS : Hid (C.Pairwise Le) := by
            have h1 := HC.out.2
            have h2 := HC.out.1.length_eq
            have h3 := HN.out
            unfold SortedTo at h1
            rw [List.take_of_length_le (by omega)] at h1
            exact h1
          have HP : Hid (C.Perm ss) := HC.out.1
          have HCl : Hid (n = C.length) := by
            show _ = _
            rw [HC.out.1.length_eq, ← HN.out]
          have HGG : Hid (ScanTo (Ks C) C.length ∧ STORE ∈ Ks C ↔ Good (Ks ss)) := good_of_scan HP.out HS.out
          have LC := hbk2.lies
          clear HC HS HP hbk2 hlt hin hi1 HN
          obtain ⟨wM, hwM⟩ : ∃ x : World, x = wr := ⟨_, rfl⟩
          subst hwM
          go_loopw [9, 10] (fun s i wr => ∃ k : Nat, k ≤ n ∧ i = .int .i64 k ∧ Flag (STORE ∈ (Ks C).take k) s ∧ Hid (ScanTo (Ks C) k) ∧ Below wM.heap.size wM wr) (fun _ i _ => n - (intOf i).toNat)
          case atStart => exact ⟨0, Nat.zero_le _, rfl, ⟨false, rfl, by simp⟩, fun j t hj => absurd hj (Nat.not_lt_zero _), Below.refl _ _⟩
          case round =>
            obtain ⟨k, hk, rfl, ⟨b, rfl, hbb⟩, hscan, hbel4⟩ := hrel
            have HB : Hid (b = true ↔ STORE ∈ (Ks C).take k) := hbb
            clear hbb
            have q4 : Below w.heap.size w wr := hbel2.trans (hbel4.mono hbel2.size)
            by_cases hlt : k < n
            · obtain ⟨p, o, x, e, hx, hc⟩ := (LC.below hbel4).str (k := k) (by rw [← HCl.out]; exact hlt)
              cases e
              rw [Nat.zero_add] at hc
              have HT : Hid ((Ks C).take (k + 1) = (Ks C).take k ++ [x.toList]) := by
                show _ = _
                have hkl : k < (Ks C).length := by rw [length_Ks, ← HCl.out]; exact hlt
                rw [List.take_succ_eq_append_getElem hkl]
                have e1 := Ks_at hx
                rw [List.getElem?_eq_getElem hkl] at e1
                rw [Option.some.inj e1]
              have HX : Hid (ScanTo (Ks C) (k + 1) ↔ ScanTo (Ks C) k ∧ (x.toList ≠ [] ∧ x.toList ≠ NONE) ∧ (0 < k → (Ks C)[k - 1]? ≠ some x.toList)) := ScanTo.succ (Ks_at hx)
              have HG : Hid (¬ ScanTo (Ks C) (k + 1) → ¬ Good (Ks ss)) := fun hno hg => hno fun i t hi ht => (HGG.out.2 hg).1 i t (by have := HCl.out; omega) ht
              have hsz : x.toList.length = x.size := by rw [ByteArray.toList_eq]; rfl
              have HSZ : Hid (x.toList.length = x.size) := hsz
              clear hx hsz
              by_cases hz : x.size = 0
              · have hz' : ((x.size : Int) == 0) = true := by simp [hz]
                have HE : Hid (¬ ScanTo (Ks C) (k + 1)) := fun hf => (HX.out.1 hf).2.1.1 (List.eq_nil_of_length_eq_zero (by rw [HSZ.out]; exact hz))
                clear hz HX HB HT
                go_wp2_with fail
                go_ret
                exact ⟨.no rfl (HG.out HE.out), q4⟩
              · have hz' : ((x.size : Int) == 0) = false := beq_eq_false_iff_ne.2 (by omega)
                have HNE : Hid (x.toList ≠ []) := fun he => hz (by rw [← HSZ.out, he]; rfl)
                clear hz
                cases hno : (x.toList == [78, 79, 78, 69]) with
                | true =>
                  have HE : Hid (¬ ScanTo (Ks C) (k + 1)) := fun hf => (HX.out.1 hf).2.1.2 (by simpa [NONE] using hno)
                  clear HX HB HT
                  go_wp2_with fail
                  go_ret
                  exact ⟨.no rfl (HG.out HE.out), q4⟩
                | false =>
                  have HNN : Hid (x.toList ≠ NONE) := by simpa [NONE, Hid] using hno
                  by_cases hk0 : k = 0
                  · have HSC : Hid (ScanTo (Ks C) (k + 1)) := HX.out.2 ⟨hscan.out, ⟨HNE.out, HNN.out⟩, fun h => by omega⟩
                    have hd : decide ((0 : Int) < (k : Int)) = false := decide_eq_false (by omega)
                    have hd2 : decide (0 < k) = false := decide_eq_false (by omega)
                    clear hk0 HX HG HNE HNN
                    cases hst : (x.toList == [83, 84, 79, 82, 69]) with
                    | true =>
                      have HB' : Hid (STORE ∈ (Ks C).take (k + 1)) := by
                        show _ ∈ _
                        rw [HT.out]
                        have e2 : x.toList = STORE := by simpa [STORE] using hst
                        exact List.mem_append_right _ (by rw [e2]; exact List.mem_cons_self)
                      clear HB HT
                      go_wp2_with fail
                      go_quiet (fail)
                      go_wp2_with fail
                      go_roundw
                      case rel => exact ⟨k + 1, by omega, by go_num, .on HB'.out, HSC.out, below_drewN hbel4 _⟩
                      case measure => simp [intOf]; omega
                    | false =>
                      have HB' : Hid (STORE ∈ (Ks C).take (k + 1) ↔ STORE ∈ (Ks C).take k) := by
                        show _ ↔ _
                        rw [HT.out, List.mem_append]
                        refine ⟨fun h => h.elim id fun h => ?_, .inl⟩
                        simp at h
                        rw [← h] at hst
                        simp [STORE] at hst
                      clear HT
                      go_wp2_with fail
                      go_quiet (fail)
                      go_wp2_with fail
                      go_roundw
                      case rel => exact ⟨k + 1, by omega, by go_num, .keep HB.out HB'.out, HSC.out, below_drewN hbel4 _⟩
                      case measure => simp [intOf]; omega
                  · obtain ⟨m, rfl⟩ : ∃ m, k = m + 1 := ⟨k - 1, by omega⟩
                    clear hk0
                    obtain ⟨p, o, y, e, hy, hcy⟩ := (LC.below hbel4).str (k := m) (by rw [← HCl.out]; omega)
                    cases e
                    rw [Nat.zero_add] at hcy
                    have HY : Hid ((Ks C)[m + 1 - 1]? = some y.toList) := Ks_at hy
                    clear hy
                    have j0 : (0 : Int) < ((m + 1 : Nat) : Int) := by omega
                    have j1 : ((m + 1 : Nat) : Int) < (n : Int) := by omega
                    have j2 : (0 : Int) ≤ (m : Int) := by omega
                    have j3 : (m : Int) < (n : Int) := by omega
                    cases heq : (x.toList == y.toList) with
                    | true =>
                      have HE : Hid (¬ ScanTo (Ks C) (m + 1 + 1)) := fun hf => (HX.out.1 hf).2.2 (by omega) (by rw [HY.out]; simp at heq; rw [heq])
                      clear HX HB HT
                      go_wp2_with fail
                      go_quiet (fail)
                      go_wp2_with fail
                      go_ret
                      exact ⟨.no rfl (HG.out HE.out), below_drewN q4 _⟩
                    | false =>
                      have HSC : Hid (ScanTo (Ks C) (m + 1 + 1)) := HX.out.2 ⟨hscan.out, ⟨HNE.out, HNN.out⟩, fun _ h => by
                        rw [HY.out] at h
                        simp at heq
                        exact heq (Option.some.inj h).symm⟩
                      clear HX HG HNE HNN HY
                      cases hst : (x.toList == [83, 84, 79, 82, 69]) with
                      | true =>
                        have HB' : Hid (STORE ∈ (Ks C).take (m + 1 + 1)) := by
                          show _ ∈ _
                          rw [HT.out]
                          have e2 : x.toList = STORE := by simpa [STORE] using hst
                          exact List.mem_append_right _ (by rw [e2]; exact List.mem_cons_self)
                        clear HB HT
                        go_wp2_with fail
                        go_quiet (fail)
                        go_wp2_with fail
                        go_roundw
                        case rel => exact ⟨m + 1 + 1, by omega, by go_num, .on HB'.out, HSC.out, below_drewN hbel4 _⟩
                        case measure => simp [intOf]; omega
                      | false =>
                        have HB' : Hid (STORE ∈ (Ks C).take (m + 1 + 1) ↔ STORE ∈ (Ks C).take (m + 1)) := by
                          show _ ↔ _
                          rw [HT.out, List.mem_append]
                          refine ⟨fun h => h.elim id fun h => ?_, .inl⟩
                          simp at h
                          rw [← h] at hst
                          simp [STORE] at hst
                        clear HT
                        go_wp2_with fail
                        go_quiet (fail)
                        go_wp2_with fail
                        go_roundw
                        case rel => exact ⟨m + 1 + 1, by omega, by go_num, .keep HB.out HB'.out, HSC.out, below_drewN hbel4 _⟩
                        case measure => simp [intOf]; omega
            · have HF : Hid (b = true ↔ Good (Ks ss)) := by
                have e : k = (Ks C).length := by rw [length_Ks]; have := HCl.out; omega
                have e2 : (Ks C).take k = Ks C := List.take_of_length_le (by omega)
                rw [e2] at HB
                rw [e, length_Ks] at hscan
                exact HB.out.trans ⟨fun h => HGG.out.1 ⟨hscan.out, h⟩, fun h => (HGG.out.2 h).2⟩
              clear HB hscan HGG
              go_wp2_with fail
              go_ret
              exact ⟨⟨b, rfl, HF.out⟩, q4⟩
end Go.Proofs.Qxb6001262aFmt
