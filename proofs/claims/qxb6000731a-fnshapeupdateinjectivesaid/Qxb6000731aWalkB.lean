/-
  THE WALK over FnShapeUpdateInjective.
-/
import Derived.Test.Qxb6000731aJoin
import Derived.Test.Qxb6000731aInj
import Derived.Deep.QuietTactic
import Derived.BigQuiet
namespace Go.Proofs.Qxb6000731a
open Go.RowKit

/-- A flag that says whether p. -/
def Flag (p : Prop) (s : Value) : Prop := ∃ b : Bool, s = .bool b ∧ (b = true ↔ p)
theorem Flag.keep {p q : Prop} {b : Bool} (h : b = true ↔ p) (e : q ↔ p) : Flag q (.bool b) := ⟨b, rfl, h.trans e.symm⟩
theorem Flag.off {q : Prop} (h : ¬ q) : Flag q (.bool false) := ⟨false, rfl, by simp [h]⟩

set_option maxHeartbeats 4000000 in
theorem walkB_main (a0 a1 a2 a3 a4 : Option Addr) (n0 n1 n2 n3 n4 c0 c1 c2 c3 c4 : Nat) (ks : List Bool) (os1 ns1 os2 ns2 : List Int) (w : World)
    (r0 : Came w a0 n0 c0 (Bs ks)) (r1 : Came w a1 n1 c1 (U8s os1)) (r2 : Came w a2 n2 c2 (U8s ns1)) (r3 : Came w a3 n3 c3 (U8s os2)) (r4 : Came w a4 n4 c4 (U8s ns2))
    (h0 : n0 ≤ 65536) (h1 : n1 ≤ 65536) (h2 : n2 ≤ 65536) (h3 : n3 ≤ 65536) (h4 : n4 ≤ 65536) (hc1 : Cov ks n1) (hc2 : Cov ks n3) :
    Calls Try.prog 4 #[.slice a0 n0 c0, .slice a1 n1 c1, .slice a2 n2 c2, .slice a3 n3 c3, .slice a4 n4 c4] w fun e w' => e = .returned (.bool true) ∧ Below w.heap.size w w' := by
  obtain ⟨e0, l0, z0⟩ := r0
  obtain ⟨e1, l1, z1⟩ := r1
  obtain ⟨e2, l2, z2⟩ := r2
  obtain ⟨e3, l3, z3⟩ := r3
  obtain ⟨e4, l4, z4⟩ := r4
  rw [length_U8s] at e1 e2 e3 e4
  rw [length_Bs] at e0
  have E0 : Hid (n0 = ks.length) := e0
  have E1 : Hid (n1 = os1.length) := e1
  have E2 : Hid (n2 = ns1.length) := e2
  have E3 : Hid (n3 = os2.length) := e3
  have E4 : Hid (n4 = ns2.length) := e4
  have Z0 : Hid (a0 = none → n0 = 0 ∧ c0 = 0) := z0
  have Z1 : Hid (a1 = none → n1 = 0 ∧ c1 = 0) := z1
  have Z2 : Hid (a2 = none → n2 = 0 ∧ c2 = 0) := z2
  have Z3 : Hid (a3 = none → n3 = 0 ∧ c3 = 0) := z3
  have Z4 : Hid (a4 = none → n4 = 0 ∧ c4 = 0) := z4
  clear e0 e1 e2 e3 e4 z0 z1 z2 z3 z4
  obtain ⟨M1, hM1⟩ : ∃ M, M = (shp ks 85 os1 ns1).length := ⟨_, rfl⟩
  obtain ⟨M2, hM2⟩ : ∃ M, M = (shp ks 85 os2 ns2).length := ⟨_, rfl⟩
  have hM1l : M1 ≤ 200000 := by
    have := shp_le ks 85 os1 ns1
    have e1 := E0.out
    have e4 := E2.out
    omega
  have HM1 : Hid (M1 = (shp ks 85 os1 ns1).length) := hM1
  have HM2 : Hid (M2 = (shp ks 85 os2 ns2).length) := hM2
  clear hM1 hM2
  have HC1 : Hid (Cov ks n1) := hc1
  have HC2 : Hid (Cov ks n3) := hc2
  clear hc1 hc2
  have d0 : decide ((65536 : Int) < (n0 : Int)) = false := decide_eq_false (by omega)
  have d1 : decide ((65536 : Int) < (n1 : Int)) = false := decide_eq_false (by omega)
  have d2 : decide ((65536 : Int) < (n2 : Int)) = false := decide_eq_false (by omega)
  have d3 : decide ((65536 : Int) < (n3 : Int)) = false := decide_eq_false (by omega)
  have d4 : decide ((65536 : Int) < (n4 : Int)) = false := decide_eq_false (by omega)
  have hlen : n2 = n4 ∨ ((n2 : Int) == (n4 : Int)) = false := by
    by_cases h : n2 = n4
    · exact .inl h
    · exact .inr (by simp; omega)
  go_enter Try.func4, Try.ntmps4
  go_wp2_with fail
  refine (zz20_any _ _ _ _ _ _ _ _ _ _ _ _ _ _ _ _).mono ?_
  rintro e w' ⟨⟨r, rfl, -⟩, rfl⟩
  cases r with
  | false =>
    go_wp2_with fail
    go_ret
    exact ⟨rfl, Below.refl _ _⟩
  | true =>
    go_wp2_with fail
    refine (keys_any a0 n0 c0 ks E0.out a1 n1 c1 h0 w l0).mono ?_
    rintro e w' ⟨⟨r, rfl, hr⟩, rfl⟩
    obtain rfl := hr.2 HC1.out
    clear hr
    go_wp2_with fail
    refine (keys_any a0 n0 c0 ks E0.out a3 n3 c3 h0 w l0).mono ?_
    rintro e w' ⟨⟨r, rfl, hr⟩, rfl⟩
    obtain rfl := hr.2 HC2.out
    clear hr
    go_wp2_with fail
    refine (cloneB_any a0 n0 c0 ks E0.out (by omega) _ l0 Z0.out).mono ?_
    rintro e w1 ⟨b0, rfl, m0, q1⟩
    go_wp2_with fail
    refine (clone_any a1 n1 c1 os1 E1.out (by omega) _ (l1.below q1) Z1.out).mono ?_
    rintro e w2 ⟨b1, rfl, m1, q2, -⟩
    have p2 := q1.trans (q2.mono q1.size)
    go_wp2_with fail
    refine (clone_any a2 n2 c2 ns1 E2.out (by omega) _ (l2.below p2) Z2.out).mono ?_
    rintro e w3 ⟨b2, rfl, m2, q3, -⟩
    have p3 := p2.trans (q3.mono p2.size)
    go_wp2_with fail
    refine (clone_any a3 n3 c3 os2 E3.out (by omega) _ (l3.below p3) Z3.out).mono ?_
    rintro e w4 ⟨b3, rfl, m3, q4, -⟩
    have p4 := p3.trans (q4.mono p3.size)
    go_wp2_with fail
    refine (clone_any a4 n4 c4 ns2 E4.out (by omega) _ (l4.below p4) Z4.out).mono ?_
    rintro e w5 ⟨b4, rfl, m4, q5, -⟩
    have p5 := p4.trans (q5.mono p4.size)
    have k0 := (((m0.below q2).below q3).below q4).below q5
    have k1 := ((m1.below q3).below q4).below q5
    have k2 := (m2.below q4).below q5
    have k3 := m3.below q5
    clear l0 l1 l2 l3 l4 m0 m1 m2 m3 q1 q2 q3 q4 q5 p2 p3 p4 Z0 Z1 Z2 Z3 Z4
    go_wp2_with fail
    refine (rel_any b0 n0 n0 ks E0.out (by omega) _ k0).mono ?_
    rintro e w6 ⟨g, rfl, mr, q6⟩
    have p6 := p5.trans (q6.mono p5.size)
    go_wp2_with fail
    refine (tuple_any b1 n1 n1 os1 E1.out (by omega) _ (k1.below q6)).mono ?_
    rintro e w7 ⟨to, rfl, mo, q7⟩
    have p7 := p6.trans (q7.mono p6.size)
    have s7 := q6.trans (q7.mono q6.size)
    go_wp2_with fail
    refine (tuple_any b2 n2 n2 ns1 E2.out (by omega) _ (k2.below s7)).mono ?_
    rintro e w8 ⟨tn, rfl, mn, q8⟩
    have p8 := p7.trans (q8.mono p7.size)
    have s8 := s7.trans (q8.mono s7.size)
    go_wp2_with fail
    refine (zzshape_row 85 none [] 0 rfl g ks to tn os1 ns1 n1 n1 n2 n2 M1 E1.out E2.out HM1.out _ (by omega) (by rw [← E0.out]; omega) (by omega) (fun _ => HC1.out) ((mr.below q7).below q8) (mo.below q8) mn (fun _ => rfl) (Lies.nil _ _)).mono ?_
    rintro e w9 ⟨g1, cg1, rfl, hcg1, mg1, q9⟩
    have p9 := p8.trans (q9.mono p8.size)
    have s9 := s8.trans (q9.mono s8.size)
    have jr := ((mr.below q7).below q8).below q9
    clear mr mo mn q6 q7 q8 q9 s7 s8 p5 p6 p7 p8
    go_wp2_with fail
    refine (tuple_any b3 n3 n3 os2 E3.out (by omega) _ (k3.below s9)).mono ?_
    rintro e w10 ⟨to2, rfl, mo, q10⟩
    have p10 := p9.trans (q10.mono p9.size)
    have s10 := s9.trans (q10.mono s9.size)
    go_wp2_with fail
    refine (tuple_any b4 n4 n4 ns2 E4.out (by omega) _ (m4.below s10)).mono ?_
    rintro e w11 ⟨tn2, rfl, mn, q11⟩
    have p11 := p10.trans (q11.mono p10.size)
    have s11 := s10.trans (q11.mono s10.size)
    go_wp2_with fail
    refine (zzshape_row 85 none [] 0 rfl g ks to2 tn2 os2 ns2 n3 n3 n4 n4 M2 E3.out E4.out HM2.out _ (by omega) (by rw [← E0.out]; omega) (by omega) (fun _ => HC2.out) ((jr.below q10).below q11) (mo.below q11) mn (fun _ => rfl) (Lies.nil _ _)).mono ?_
    rintro e wL ⟨g2, cg2, rfl, hcg2, mg2, q12⟩
    have pL := p11.trans (q12.mono p11.size)
    have s12 := s11.trans (q12.mono s11.size)
    have G1 := range_below (range_below (range_below mg1 q10) q11) q12
    have K0 := k0.below s12
    have K1 := k1.below s12
    have K2 := k2.below s12
    have K3 := k3.below s12
    have K4 := m4.below s12
    rw [List.nil_append] at G1 mg2
    clear k0 k1 k2 k3 m4 mg1 q10 q11 q12 s9 s10 s11 s12 p9 p10 p11 jr mo mn
    rcases hlen with rfl | hne
    · go_wp2_with fail
      go_loopw [14, 15] (fun s i wr => ∃ k : Nat, k ≤ n2 ∧ i = .int .i64 k ∧ Flag (SameSet ns1 ns2 k) s ∧ Below wL.heap.size wL wr) (fun _ i _ => n2 - (intOf i).toNat)
      case atStart => exact ⟨0, Nat.zero_le _, rfl, ⟨true, rfl, iff_of_true rfl fun i hi => absurd hi (Nat.not_lt_zero _)⟩, Below.refl _ _⟩
      case round =>
        obtain ⟨k, hk, rfl, ⟨b, rfl, hb⟩, hbel⟩ := hrel
        have HB : Hid (b = true ↔ SameSet ns1 ns2 k) := hb
        clear hb
        by_cases hlt : k < n2
        · have HS : Hid (SameSet ns1 ns2 (k + 1) ↔ SameSet ns1 ns2 k ∧ (ns1[k]?.getD 0 = 117 ↔ ns2[k]?.getD 0 = 117)) := sameSet_succ
          obtain ⟨x1, x2, rfl, hx⟩ := (K2.below hbel).u8 (k := k) (by rw [← E2.out]; exact hlt)
          obtain ⟨y1, y2, rfl, hy⟩ := (K4.below hbel).u8 (k := k) (by rw [← E4.out]; exact hlt)
          generalize ns1[k]?.getD 0 = x at hx HS
          generalize ns2[k]?.getD 0 = y at hy HS
          have i0 : (0 : Int) ≤ (k : Int) := by omega
          have i1 : (k : Int) < (n2 : Int) := by omega
          by_cases ex : x = 117
          · subst ex
            by_cases ey : y = 117
            · subst ey
              have HR : Hid (SameSet ns1 ns2 (k + 1) ↔ SameSet ns1 ns2 k) := HS.out.trans ⟨fun h => h.1, fun h => ⟨h, Iff.rfl⟩⟩
              clear HS
              go_wp2_with fail
              go_region
              all_goals go_wp2_with fail
              all_goals go_roundw
              case rel => exact ⟨k + 1, by omega, by go_num, .keep HB.out HR.out, hbel.drew⟩
              case measure => simp [intOf]; omega
            · have HR : Hid (¬ SameSet ns1 ns2 (k + 1)) := fun h => ey ((HS.out.1 h).2.1 rfl)
              have ey' : (y == 117) = false := by simpa using ey
              clear HS ey
              go_wp2_with fail
              go_region
              all_goals go_wp2_with fail
              all_goals go_roundw
              case rel => exact ⟨k + 1, by omega, by go_num, .off HR.out, hbel.drew⟩
              case measure => simp [intOf]; omega
          · have ex' : (x == 117) = false := by simpa using ex
            by_cases ey : y = 117
            · subst ey
              have HR : Hid (¬ SameSet ns1 ns2 (k + 1)) := fun h => ex ((HS.out.1 h).2.2 rfl)
              clear HS ex
              go_wp2_with fail
              go_region
              all_goals go_wp2_with fail
              all_goals go_roundw
              case rel => exact ⟨k + 1, by omega, by go_num, .off HR.out, hbel.drew⟩
              case measure => simp [intOf]; omega
            · have HR : Hid (SameSet ns1 ns2 (k + 1) ↔ SameSet ns1 ns2 k) := HS.out.trans ⟨fun h => h.1, fun h => ⟨h, iff_of_false ex ey⟩⟩
              have ey' : (y == 117) = false := by simpa using ey
              clear HS ex ey
              go_wp2_with fail
              go_region
              all_goals go_wp2_with fail
              all_goals go_roundw
              case rel => exact ⟨k + 1, by omega, by go_num, .keep HB.out HR.out, hbel.drew⟩
              case measure => simp [intOf]; omega
        · have HQ : Hid (b = true ↔ ns1.length = ns2.length ∧ SameSet ns1 ns2 ns1.length) := by
            have e2 := E2.out
            have e4 := E4.out
            have e : k = ns1.length := by omega
            rw [e] at HB
            exact HB.out.trans ⟨fun h => ⟨by omega, h⟩, fun h => h.2⟩
          have K0' := K0.below hbel
          have K1' := K1.below hbel
          have K3' := K3.below hbel
          have G1' := range_below G1 hbel
          have G2' := range_below mg2 hbel
          have pM := pL.trans (hbel.mono pL.size)
          clear HB K0 K1 K2 K3 K4 G1 mg2 pL hbel
          go_wp2_with fail
          clear hk hlt
          obtain ⟨wM, hwM⟩ : ∃ x : World, x = wr := ⟨_, rfl⟩
          subst hwM
          go_loopw [14, 16] (fun s i wr => ∃ k : Nat, k ≤ n0 ∧ i = .int .i64 k ∧ Flag ((ns1.length = ns2.length ∧ SameSet ns1 ns2 ns1.length) ∧ SameKey ks os1 os2 k) s ∧ Below wM.heap.size wM wr) (fun _ i _ => n0 - (intOf i).toNat)
          case atStart => exact ⟨0, Nat.zero_le _, rfl, .keep HQ.out ⟨fun h => h.1, fun h => ⟨h, fun i hi => absurd hi (Nat.not_lt_zero _)⟩⟩, Below.refl _ _⟩
          case round =>
            obtain ⟨k, hk, rfl, ⟨b, rfl, hb⟩, hbel⟩ := hrel
            have HB : Hid (b = true ↔ (ns1.length = ns2.length ∧ SameSet ns1 ns2 ns1.length) ∧ SameKey ks os1 os2 k) := hb
            clear hb HQ
            by_cases hlt : k < n0
            · have HS : Hid (SameKey ks os1 os2 (k + 1) ↔ SameKey ks os1 os2 k ∧ (ks[k]?.getD false = true → os1[k]?.getD 0 = os2[k]?.getD 0)) := sameKey_succ
              obtain ⟨v1, v2, rfl, hv⟩ := (K0'.below hbel).bool (k := k) (by rw [← E0.out]; exact hlt)
              have i0 : (0 : Int) ≤ (k : Int) := by omega
              have i1 : (k : Int) < (n0 : Int) := by omega
              cases hkv : ks[k]?.getD false with
              | false =>
                rw [hkv] at hv HS
                have HR : Hid ((ns1.length = ns2.length ∧ SameSet ns1 ns2 ns1.length) ∧ SameKey ks os1 os2 (k + 1) ↔ (ns1.length = ns2.length ∧ SameSet ns1 ns2 ns1.length) ∧ SameKey ks os1 os2 k) :=
                  and_congr_right fun _ => HS.out.trans ⟨fun h => h.1, fun h => ⟨h, fun e => by cases e⟩⟩
                clear HS hkv
                go_wp2_with fail
                go_quiet (fail)
                go_wp2_with fail
                go_roundw
                case rel => exact ⟨k + 1, by omega, by go_num, .keep HB.out HR.out, below_drewN hbel _⟩
                case measure => simp [intOf]; omega
              | true =>
                have hk1 : k < n1 := by
                  refine Nat.lt_of_not_le fun hle => ?_
                  have := HC1.out k (by rw [← E0.out]; exact hlt) hle
                  rw [hkv] at this
                  cases this
                have hk3 : k < n3 := by
                  refine Nat.lt_of_not_le fun hle => ?_
                  have := HC2.out k (by rw [← E0.out]; exact hlt) hle
                  rw [hkv] at this
                  cases this
                rw [hkv] at hv HS
                obtain ⟨x1, x2, rfl, hx⟩ := (K1'.below hbel).u8 (k := k) (by rw [← E1.out]; exact hk1)
                obtain ⟨y1, y2, rfl, hy⟩ := (K3'.below hbel).u8 (k := k) (by rw [← E3.out]; exact hk3)
                generalize os1[k]?.getD 0 = x at hx HS
                generalize os2[k]?.getD 0 = y at hy HS
                have i2 : (k : Int) < (n1 : Int) := by omega
                have i3 : (k : Int) < (n3 : Int) := by omega
                by_cases exy : x = y
                · subst exy
                  have HR : Hid ((ns1.length = ns2.length ∧ SameSet ns1 ns2 ns1.length) ∧ SameKey ks os1 os2 (k + 1) ↔ (ns1.length = ns2.length ∧ SameSet ns1 ns2 ns1.length) ∧ SameKey ks os1 os2 k) :=
                    and_congr_right fun _ => HS.out.trans ⟨fun h => h.1, fun h => ⟨h, fun _ => rfl⟩⟩
                  clear HS hkv
                  go_wp2_with fail
                  go_quiet (fail)
                  go_wp2_with fail
                  go_roundw
                  case rel => exact ⟨k + 1, by omega, by go_num, .keep HB.out HR.out, below_drewN hbel _⟩
                  case measure => simp [intOf]; omega
                · have HR : Hid (¬ ((ns1.length = ns2.length ∧ SameSet ns1 ns2 ns1.length) ∧ SameKey ks os1 os2 (k + 1))) := fun h => exy ((HS.out.1 h.2).2 rfl)
                  have exy' : (x != y) = true := by simpa using exy
                  clear HS hkv exy
                  go_wp2_with fail
                  go_quiet (fail)
                  go_wp2_with fail
                  go_roundw
                  case rel => exact ⟨k + 1, by omega, by go_num, .off HR.out, below_drewN hbel _⟩
                  case measure => simp [intOf]; omega
            · have HF : Hid (b = true ↔ shp ks 85 os1 ns1 = shp ks 85 os2 ns2) := by
                have e0 := E0.out
                have e : k = ks.length := by omega
                rw [e] at HB
                exact HB.out.trans (shp_inj ks os1 ns1 os2 ns2).symm
              clear HB
              go_wp2_with fail
              refine (eq_any _ _ M1 cg1 M2 cg2 _ _ HM1.out HM2.out (by omega) _ (Lies.range (range_below G1' hbel)) (Lies.range (range_below G2' hbel))).mono ?_
              rintro e wE ⟨⟨r, rfl, hr⟩, qE⟩
              obtain rfl : r = b := by
                have := hr.trans HF.out.symm
                cases r <;> cases b <;> simp_all
              clear hr HF
              go_wp2_with fail
              go_ret
              exact ⟨by simp, (pM.trans (hbel.mono pM.size)).trans (qE.mono (pM.trans (hbel.mono pM.size)).size)⟩
    · have HQ : Hid (false = true ↔ ns1.length = ns2.length ∧ SameSet ns1 ns2 ns1.length) := by
        have e2 := E2.out
        have e4 := E4.out
        simp at hne
        exact iff_of_false (by simp) fun h => hne (by omega)
      have K0' := K0
      have K1' := K1
      have K3' := K3
      have G1' := G1
      have G2' := mg2
      have pM := pL
      clear K0 K1 K2 K3 K4 G1 mg2 pL
      go_wp2_with fail
      obtain ⟨wM, hwM⟩ : ∃ x : World, x = wL := ⟨_, rfl⟩
      subst hwM
      go_loopw [14, 16] (fun s i wr => ∃ k : Nat, k ≤ n0 ∧ i = .int .i64 k ∧ Flag ((ns1.length = ns2.length ∧ SameSet ns1 ns2 ns1.length) ∧ SameKey ks os1 os2 k) s ∧ Below wM.heap.size wM wr) (fun _ i _ => n0 - (intOf i).toNat)
      case atStart => exact ⟨0, Nat.zero_le _, rfl, .keep HQ.out ⟨fun h => h.1, fun h => ⟨h, fun i hi => absurd hi (Nat.not_lt_zero _)⟩⟩, Below.refl _ _⟩
      case round =>
        obtain ⟨k, hk, rfl, ⟨b, rfl, hb⟩, hbel⟩ := hrel
        have HB : Hid (b = true ↔ (ns1.length = ns2.length ∧ SameSet ns1 ns2 ns1.length) ∧ SameKey ks os1 os2 k) := hb
        clear hb HQ
        by_cases hlt : k < n0
        · have HS : Hid (SameKey ks os1 os2 (k + 1) ↔ SameKey ks os1 os2 k ∧ (ks[k]?.getD false = true → os1[k]?.getD 0 = os2[k]?.getD 0)) := sameKey_succ
          obtain ⟨v1, v2, rfl, hv⟩ := (K0'.below hbel).bool (k := k) (by rw [← E0.out]; exact hlt)
          have i0 : (0 : Int) ≤ (k : Int) := by omega
          have i1 : (k : Int) < (n0 : Int) := by omega
          cases hkv : ks[k]?.getD false with
          | false =>
            rw [hkv] at hv HS
            have HR : Hid ((ns1.length = ns2.length ∧ SameSet ns1 ns2 ns1.length) ∧ SameKey ks os1 os2 (k + 1) ↔ (ns1.length = ns2.length ∧ SameSet ns1 ns2 ns1.length) ∧ SameKey ks os1 os2 k) :=
              and_congr_right fun _ => HS.out.trans ⟨fun h => h.1, fun h => ⟨h, fun e => by cases e⟩⟩
            clear HS hkv
            go_wp2_with fail
            go_quiet (fail)
            go_wp2_with fail
            go_roundw
            case rel => exact ⟨k + 1, by omega, by go_num, .keep HB.out HR.out, below_drewN hbel _⟩
            case measure => simp [intOf]; omega
          | true =>
            have hk1 : k < n1 := by
              refine Nat.lt_of_not_le fun hle => ?_
              have := HC1.out k (by rw [← E0.out]; exact hlt) hle
              rw [hkv] at this
              cases this
            have hk3 : k < n3 := by
              refine Nat.lt_of_not_le fun hle => ?_
              have := HC2.out k (by rw [← E0.out]; exact hlt) hle
              rw [hkv] at this
              cases this
            rw [hkv] at hv HS
            obtain ⟨x1, x2, rfl, hx⟩ := (K1'.below hbel).u8 (k := k) (by rw [← E1.out]; exact hk1)
            obtain ⟨y1, y2, rfl, hy⟩ := (K3'.below hbel).u8 (k := k) (by rw [← E3.out]; exact hk3)
            generalize os1[k]?.getD 0 = x at hx HS
            generalize os2[k]?.getD 0 = y at hy HS
            have i2 : (k : Int) < (n1 : Int) := by omega
            have i3 : (k : Int) < (n3 : Int) := by omega
            by_cases exy : x = y
            · subst exy
              have HR : Hid ((ns1.length = ns2.length ∧ SameSet ns1 ns2 ns1.length) ∧ SameKey ks os1 os2 (k + 1) ↔ (ns1.length = ns2.length ∧ SameSet ns1 ns2 ns1.length) ∧ SameKey ks os1 os2 k) :=
                and_congr_right fun _ => HS.out.trans ⟨fun h => h.1, fun h => ⟨h, fun _ => rfl⟩⟩
              clear HS hkv
              go_wp2_with fail
              go_quiet (fail)
              go_wp2_with fail
              go_roundw
              case rel => exact ⟨k + 1, by omega, by go_num, .keep HB.out HR.out, below_drewN hbel _⟩
              case measure => simp [intOf]; omega
            · have HR : Hid (¬ ((ns1.length = ns2.length ∧ SameSet ns1 ns2 ns1.length) ∧ SameKey ks os1 os2 (k + 1))) := fun h => exy ((HS.out.1 h.2).2 rfl)
              have exy' : (x != y) = true := by simpa using exy
              clear HS hkv exy
              go_wp2_with fail
              go_quiet (fail)
              go_wp2_with fail
              go_roundw
              case rel => exact ⟨k + 1, by omega, by go_num, .off HR.out, below_drewN hbel _⟩
              case measure => simp [intOf]; omega
        · have HF : Hid (b = true ↔ shp ks 85 os1 ns1 = shp ks 85 os2 ns2) := by
            have e0 := E0.out
            have e : k = ks.length := by omega
            rw [e] at HB
            exact HB.out.trans (shp_inj ks os1 ns1 os2 ns2).symm
          clear HB
          go_wp2_with fail
          refine (eq_any _ _ M1 cg1 M2 cg2 _ _ HM1.out HM2.out (by omega) _ (Lies.range (range_below G1' hbel)) (Lies.range (range_below G2' hbel))).mono ?_
          rintro e wE ⟨⟨r, rfl, hr⟩, qE⟩
          obtain rfl : r = b := by
            have := hr.trans HF.out.symm
            cases r <;> cases b <;> simp_all
          clear hr HF
          go_wp2_with fail
          go_ret
          exact ⟨by simp, (pM.trans (hbel.mono pM.size)).trans (qE.mono (pM.trans (hbel.mono pM.size)).size)⟩

set_option maxHeartbeats 1000000 in
theorem walkB_bare (a0 a1 a2 a3 a4 : Option Addr) (n0 n1 n2 n3 n4 c0 c1 c2 c3 c4 : Nat) (ks : List Bool) (w : World) (e0 : n0 = ks.length) (l0 : Lies w a0 (Bs ks))
    (h0 : n0 ≤ 65536) (h1 : n1 ≤ 65536) (h2 : n2 ≤ 65536) (h3 : n3 ≤ 65536) (h4 : n4 ≤ 65536) (hcov : ¬ (Cov ks n1 ∧ Cov ks n3)) :
    Calls Try.prog 4 #[.slice a0 n0 c0, .slice a1 n1 c1, .slice a2 n2 c2, .slice a3 n3 c3, .slice a4 n4 c4] w fun e w' => e = .returned (.bool true) ∧ Below w.heap.size w w' := by
  have E0 : Hid (n0 = ks.length) := e0
  have HC : Hid (¬ (Cov ks n1 ∧ Cov ks n3)) := hcov
  clear e0 hcov
  go_enter Try.func4, Try.ntmps4
  go_wp2_with fail
  refine (zz20_any _ _ _ _ _ _ _ _ _ _ _ _ _ _ _ _).mono ?_
  rintro e w' ⟨⟨r, rfl, -⟩, rfl⟩
  cases r with
  | false =>
    go_wp2_with fail
    go_ret
    exact ⟨rfl, Below.refl _ _⟩
  | true =>
    go_wp2_with fail
    refine (keys_any a0 n0 c0 ks E0.out a1 n1 c1 h0 w l0).mono ?_
    rintro e w' ⟨⟨r, rfl, hr⟩, rfl⟩
    have H1 : Hid (r = true ↔ Cov ks n1) := hr
    clear hr
    cases r with
    | false =>
      go_wp2_with fail
      go_ret
      exact ⟨rfl, Below.refl _ _⟩
    | true =>
      have C1 : Hid (Cov ks n1) := H1.out.1 rfl
      clear H1
      go_wp2_with fail
      refine (keys_any a0 n0 c0 ks E0.out a3 n3 c3 h0 w l0).mono ?_
      rintro e w' ⟨⟨r, rfl, hr⟩, rfl⟩
      obtain rfl : r = false := by
        cases r with
        | false => rfl
        | true => exact absurd ⟨C1.out, hr.1 rfl⟩ HC.out
      clear hr
      go_wp2_with fail
      go_ret
      exact ⟨rfl, Below.refl _ _⟩

set_option maxHeartbeats 1000000 in
theorem walkB_long (a0 a1 a2 a3 a4 : Option Addr) (n0 n1 n2 n3 n4 c0 c1 c2 c3 c4 : Nat) (w : World) (h : ¬ (n0 ≤ 65536 ∧ n1 ≤ 65536 ∧ n2 ≤ 65536 ∧ n3 ≤ 65536 ∧ n4 ≤ 65536)) :
    Calls Try.prog 4 #[.slice a0 n0 c0, .slice a1 n1 c1, .slice a2 n2 c2, .slice a3 n3 c3, .slice a4 n4 c4] w fun e w' => e = .returned (.bool true) ∧ Below w.heap.size w w' := by
  rcases (show 65536 < n0 ∨ (n0 ≤ 65536 ∧ 65536 < n1) ∨ (n0 ≤ 65536 ∧ n1 ≤ 65536 ∧ 65536 < n2) ∨ (n0 ≤ 65536 ∧ n1 ≤ 65536 ∧ n2 ≤ 65536 ∧ 65536 < n3) ∨ (n0 ≤ 65536 ∧ n1 ≤ 65536 ∧ n2 ≤ 65536 ∧ n3 ≤ 65536 ∧ 65536 < n4) by omega) with h0 | ⟨h0, h1⟩ | ⟨h0, h1, h2⟩ | ⟨h0, h1, h2, h3⟩ | ⟨h0, h1, h2, h3, h4⟩
  all_goals
    clear h
    go_enter Try.func4, Try.ntmps4
    go_wp2_with fail
    refine (zz20_any _ _ _ _ _ _ _ _ _ _ _ _ _ _ _ _).mono ?_
    rintro e w' ⟨⟨r, rfl, -⟩, rfl⟩
    cases r with
    | false =>
      go_wp2_with fail
      go_ret
      exact ⟨rfl, Below.refl _ _⟩
    | true =>
      go_wp2_with fail
      go_ret
      exact ⟨rfl, Below.refl _ _⟩

theorem walkB (a0 a1 a2 a3 a4 : Option Addr) (n0 n1 n2 n3 n4 c0 c1 c2 c3 c4 : Nat) (ks : List Bool) (os1 ns1 os2 ns2 : List Int) (w : World)
    (r0 : Came w a0 n0 c0 (Bs ks)) (r1 : Came w a1 n1 c1 (U8s os1)) (r2 : Came w a2 n2 c2 (U8s ns1)) (r3 : Came w a3 n3 c3 (U8s os2)) (r4 : Came w a4 n4 c4 (U8s ns2)) :
    Calls Try.prog 4 #[.slice a0 n0 c0, .slice a1 n1 c1, .slice a2 n2 c2, .slice a3 n3 c3, .slice a4 n4 c4] w fun e w' => e = .returned (.bool true) ∧ Below w.heap.size w w' := by
  by_cases h : n0 ≤ 65536 ∧ n1 ≤ 65536 ∧ n2 ≤ 65536 ∧ n3 ≤ 65536 ∧ n4 ≤ 65536
  · obtain ⟨h0, h1, h2, h3, h4⟩ := h
    by_cases hc : Cov ks n1 ∧ Cov ks n3
    · exact walkB_main a0 a1 a2 a3 a4 n0 n1 n2 n3 n4 c0 c1 c2 c3 c4 ks os1 ns1 os2 ns2 w r0 r1 r2 r3 r4 h0 h1 h2 h3 h4 hc.1 hc.2
    · exact walkB_bare a0 a1 a2 a3 a4 n0 n1 n2 n3 n4 c0 c1 c2 c3 c4 ks w (by rw [r0.1, length_Bs]) r0.2.1 h0 h1 h2 h3 h4 hc
  · exact walkB_long a0 a1 a2 a3 a4 n0 n1 n2 n3 n4 c0 c1 c2 c3 c4 w h

end Go.Proofs.Qxb6000731a
