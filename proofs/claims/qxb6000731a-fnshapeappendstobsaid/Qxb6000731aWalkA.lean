/-
  THE WALK over FnShapeAppendsToB.
-/
import Derived.Test.Qxb6000731aJoin
namespace Go.Proofs.Qxb6000731a
open Go.RowKit

set_option maxHeartbeats 4000000 in
theorem walkA_main (a0 a1 a3 a4 : Option Addr) (n0 n1 n3 n4 c0 c1 c3 c4 : Nat) (op : Int) (zs : List Int) (ks : List Bool) (os ns : List Int) (w : World)
    (r0 : Came w a0 n0 c0 (U8s zs)) (r1 : Came w a1 n1 c1 (Bs ks)) (r3 : Came w a3 n3 c3 (U8s os)) (r4 : Came w a4 n4 c4 (U8s ns))
    (h0 : n0 ≤ 65536) (h1 : n1 ≤ 65536) (h3 : n3 ≤ 65536) (h4 : n4 ≤ 65536) (hpre : op = 73 ∨ ((op != 73) = true ∧ Cov ks n3)) :
    Calls Try.prog 3 #[.slice a0 n0 c0, .slice a1 n1 c1, .int .u8 op, .slice a3 n3 c3, .slice a4 n4 c4] w fun e w' => e = .returned (.bool true) ∧ Below w.heap.size w w' := by
  obtain ⟨e0, l0, z0⟩ := r0
  obtain ⟨e1, l1, z1⟩ := r1
  obtain ⟨e3, l3, z3⟩ := r3
  obtain ⟨e4, l4, z4⟩ := r4
  rw [length_U8s] at e0 e3 e4
  rw [length_Bs] at e1
  have E0 : Hid (n0 = zs.length) := e0
  have E1 : Hid (n1 = ks.length) := e1
  have E3 : Hid (n3 = os.length) := e3
  have E4 : Hid (n4 = ns.length) := e4
  have Z0 : Hid (a0 = none → n0 = 0 ∧ c0 = 0) := z0
  have Z1 : Hid (a1 = none → n1 = 0 ∧ c1 = 0) := z1
  have Z3 : Hid (a3 = none → n3 = 0 ∧ c3 = 0) := z3
  have Z4 : Hid (a4 = none → n4 = 0 ∧ c4 = 0) := z4
  clear e0 e1 e3 e4 z0 z1 z3 z4
  obtain ⟨M, hM⟩ : ∃ M, M = (shp ks op os ns).length := ⟨_, rfl⟩
  have hM1 : 1 ≤ M := by
    obtain ⟨r, hr⟩ := shp_pos ks op os ns
    rw [hM, hr]; simp
  have hM2 : M ≤ 200000 := by
    have := shp_le ks op os ns
    have e1 := E1.out
    have e4 := E4.out
    omega
  have HM : Hid (M = (shp ks op os ns).length) := hM
  clear hM
  have HF : Hid (∃ r, shp ks op os ns = op :: r) := shp_pos ks op os ns
  rcases hpre with rfl | ⟨hop, hcov⟩
  · go_enter Try.func3, Try.ntmps3
    go_wp2_with fail
    refine (zz12_any _ _ _ _ _ _ _ _ _ _ _ _ _ _).mono ?_
    rintro e w' ⟨⟨r, rfl, -⟩, rfl⟩
    cases r with
    | false =>
      go_wp2_with fail
      go_ret
      exact ⟨rfl, Below.refl _ _⟩
    | true =>
      go_wp2_with fail
      refine (clone_any a0 n0 c0 zs E0.out (by omega) _ l0 Z0.out).mono ?_
      rintro e w1 ⟨b0, rfl, m0, q1, y0⟩
      have Y0 : Hid (b0 = none → n0 = 0 ∧ n0 = 0) := y0
      clear y0
      go_wp2_with fail
      refine (cloneB_any a1 n1 c1 ks E1.out (by omega) _ (l1.below q1) Z1.out).mono ?_
      rintro e w2 ⟨b1, rfl, m1, q2⟩
      have p2 := q1.trans (q2.mono q1.size)
      go_wp2_with fail
      refine (clone_any a3 n3 c3 os E3.out (by omega) _ (l3.below p2) Z3.out).mono ?_
      rintro e w3 ⟨b3, rfl, m3, q3, -⟩
      have p3 := p2.trans (q3.mono p2.size)
      go_wp2_with fail
      refine (clone_any a4 n4 c4 ns E4.out (by omega) _ (l4.below p3) Z4.out).mono ?_
      rintro e w4 ⟨b4, rfl, m4, q4, -⟩
      have p4 := p3.trans (q4.mono p3.size)
      have k0 := (((m0.below q2).below q3).below q4)
      have k1 := ((m1.below q3).below q4)
      have k3 := m3.below q4
      clear l0 l1 l3 l4 m0 m1 m3 q1 q2 q3 q4 p2 p3 Z0 Z1 Z3 Z4
      go_wp2_with fail
      refine (clone_any b0 n0 n0 zs E0.out (by omega) _ k0 Y0.out).mono ?_
      rintro e w5 ⟨bf, rfl, mf, q5, -⟩
      have p5 := p4.trans (q5.mono p4.size)
      go_wp2_with fail
      refine (rel_any b1 n1 n1 ks E1.out (by omega) _ (k1.below q5)).mono ?_
      rintro e w6 ⟨g, rfl, mr, q6⟩
      have p6 := p5.trans (q6.mono p5.size)
      go_wp2_with fail
      refine (tuple_any b3 n3 n3 os E3.out (by omega) _ ((k3.below q5).below q6)).mono ?_
      rintro e w7 ⟨to, rfl, mo, q7⟩
      have p7 := p6.trans (q7.mono p6.size)
      go_wp2_with fail
      refine (tuple_any b4 n4 n4 ns E4.out (by omega) _ (((m4.below q5).below q6).below q7)).mono ?_
      rintro e w8 ⟨tn, rfl, mn, q8⟩
      have p8 := p7.trans (q8.mono p7.size)
      have j0 := (((k0.below q5).below q6).below q7).below q8
      have jf := ((mf.below q6).below q7).below q8
      have jr := (mr.below q7).below q8
      have jo := mo.below q8
      clear k0 k1 k3 m4 mf mr mo q5 q6 q7 q8 p4 p5 p6 p7
      go_wp2_with fail
      refine (zzshape_row 73 b0 zs n0 E0.out g ks to tn os ns n3 n3 n4 n4 M E3.out E4.out HM.out _ (by omega) (by rw [← E1.out]; omega) (by omega) (fun h => absurd rfl h) jr jo mn (fun e => (Y0.out e).1) j0).mono ?_
      rintro e w9 ⟨g1, cg, rfl, hcg, mg, q9⟩
      have p9 := p8.trans (q9.mono p8.size)
      go_wp2_with fail
      refine (zzshape_row 73 none [] 0 rfl g ks to tn os ns n3 n3 n4 n4 M E3.out E4.out HM.out _ (by omega) (by rw [← E1.out]; omega) (by omega) (fun h => absurd rfl h) (jr.below q9) (jo.below q9) (mn.below q9) (fun _ => rfl) (Lies.nil _ _)).mono ?_
      rintro e w10 ⟨g2, ca, rfl, hca, ma, q10⟩
      have p10 := p9.trans (q10.mono p9.size)
      have i0 : w10.cell? ⟨g2, 0, none⟩ = some (.int .u8 73) := by
        obtain ⟨r, hr⟩ := HF.out
        exact ma 0 _ (by rw [List.nil_append, hr]; rfl)
      have GF := (jf.below q9).below q10
      have GG := range_below mg q10
      rw [List.nil_append] at ma
      clear j0 jf jr jo mn mg q9 q10 p8 p9 HF
      go_wp2_with fail
      refine (eq_any _ _ _ _ _ _ zs zs E0.out E0.out (by omega) _ (Lies.range (range_take GG)) GF).mono ?_
      rintro e w11 ⟨⟨r, rfl, hr⟩, q11⟩
      obtain rfl := hr.2 rfl
      clear hr
      have p11 := p10.trans (q11.mono p10.size)
      go_wp2_with fail
      refine (eq_any _ _ _ _ _ _ (shp ks 73 os ns) (shp ks 73 os ns) ?d1 ?d2 ?d3 _ (Lies.range (range_below (range_drop GG n0 E0.out) q11)) (Lies.range (range_below ma q11))).mono ?_
      case d1 => exact HM.out
      case d2 => exact HM.out
      case d3 => omega
      rintro e w12 ⟨⟨r, rfl, hr⟩, q12⟩
      obtain rfl := hr.2 rfl
      clear hr
      have p12 := p11.trans (q12.mono p11.size)
      go_wp2_with fail
      go_ret
      exact ⟨rfl, p12⟩
  · go_enter Try.func3, Try.ntmps3
    go_wp2_with fail
    refine (zz12_any _ _ _ _ _ _ _ _ _ _ _ _ _ _).mono ?_
    rintro e w' ⟨⟨r, rfl, -⟩, rfl⟩
    cases r with
    | false =>
      go_wp2_with fail
      go_ret
      exact ⟨rfl, Below.refl _ _⟩
    | true =>
      go_wp2_with fail
      refine (keys_any a1 n1 c1 ks E1.out a3 n3 c3 h1 w l1).mono ?_
      rintro e w' ⟨⟨r, rfl, hr⟩, rfl⟩
      obtain rfl := hr.2 hcov
      have HC : Hid (Cov ks n3) := hcov
      clear hr hcov
      go_wp2_with fail
      refine (clone_any a0 n0 c0 zs E0.out (by omega) _ l0 Z0.out).mono ?_
      rintro e w1 ⟨b0, rfl, m0, q1, y0⟩
      have Y0 : Hid (b0 = none → n0 = 0 ∧ n0 = 0) := y0
      clear y0
      go_wp2_with fail
      refine (cloneB_any a1 n1 c1 ks E1.out (by omega) _ (l1.below q1) Z1.out).mono ?_
      rintro e w2 ⟨b1, rfl, m1, q2⟩
      have p2 := q1.trans (q2.mono q1.size)
      go_wp2_with fail
      refine (clone_any a3 n3 c3 os E3.out (by omega) _ (l3.below p2) Z3.out).mono ?_
      rintro e w3 ⟨b3, rfl, m3, q3, -⟩
      have p3 := p2.trans (q3.mono p2.size)
      go_wp2_with fail
      refine (clone_any a4 n4 c4 ns E4.out (by omega) _ (l4.below p3) Z4.out).mono ?_
      rintro e w4 ⟨b4, rfl, m4, q4, -⟩
      have p4 := p3.trans (q4.mono p3.size)
      have k0 := (((m0.below q2).below q3).below q4)
      have k1 := ((m1.below q3).below q4)
      have k3 := m3.below q4
      clear l0 l1 l3 l4 m0 m1 m3 q1 q2 q3 q4 p2 p3 Z0 Z1 Z3 Z4
      go_wp2_with fail
      refine (clone_any b0 n0 n0 zs E0.out (by omega) _ k0 Y0.out).mono ?_
      rintro e w5 ⟨bf, rfl, mf, q5, -⟩
      have p5 := p4.trans (q5.mono p4.size)
      go_wp2_with fail
      refine (rel_any b1 n1 n1 ks E1.out (by omega) _ (k1.below q5)).mono ?_
      rintro e w6 ⟨g, rfl, mr, q6⟩
      have p6 := p5.trans (q6.mono p5.size)
      go_wp2_with fail
      refine (tuple_any b3 n3 n3 os E3.out (by omega) _ ((k3.below q5).below q6)).mono ?_
      rintro e w7 ⟨to, rfl, mo, q7⟩
      have p7 := p6.trans (q7.mono p6.size)
      go_wp2_with fail
      refine (tuple_any b4 n4 n4 ns E4.out (by omega) _ (((m4.below q5).below q6).below q7)).mono ?_
      rintro e w8 ⟨tn, rfl, mn, q8⟩
      have p8 := p7.trans (q8.mono p7.size)
      have j0 := (((k0.below q5).below q6).below q7).below q8
      have jf := ((mf.below q6).below q7).below q8
      have jr := (mr.below q7).below q8
      have jo := mo.below q8
      clear k0 k1 k3 m4 mf mr mo q5 q6 q7 q8 p4 p5 p6 p7
      go_wp2_with fail
      refine (zzshape_row op b0 zs n0 E0.out g ks to tn os ns n3 n3 n4 n4 M E3.out E4.out HM.out _ (by omega) (by rw [← E1.out]; omega) (by omega) (fun _ => HC.out) jr jo mn (fun e => (Y0.out e).1) j0).mono ?_
      rintro e w9 ⟨g1, cg, rfl, hcg, mg, q9⟩
      have p9 := p8.trans (q9.mono p8.size)
      go_wp2_with fail
      refine (zzshape_row op none [] 0 rfl g ks to tn os ns n3 n3 n4 n4 M E3.out E4.out HM.out _ (by omega) (by rw [← E1.out]; omega) (by omega) (fun _ => HC.out) (jr.below q9) (jo.below q9) (mn.below q9) (fun _ => rfl) (Lies.nil _ _)).mono ?_
      rintro e w10 ⟨g2, ca, rfl, hca, ma, q10⟩
      have p10 := p9.trans (q10.mono p9.size)
      have i0 : w10.cell? ⟨g2, 0, none⟩ = some (.int .u8 op) := by
        obtain ⟨r, hr⟩ := HF.out
        exact ma 0 _ (by rw [List.nil_append, hr]; rfl)
      have GF := (jf.below q9).below q10
      have GG := range_below mg q10
      rw [List.nil_append] at ma
      clear j0 jf jr jo mn mg q9 q10 p8 p9 HF
      go_wp2_with fail
      refine (eq_any _ _ _ _ _ _ zs zs E0.out E0.out (by omega) _ (Lies.range (range_take GG)) GF).mono ?_
      rintro e w11 ⟨⟨r, rfl, hr⟩, q11⟩
      obtain rfl := hr.2 rfl
      clear hr
      have p11 := p10.trans (q11.mono p10.size)
      go_wp2_with fail
      refine (eq_any _ _ _ _ _ _ (shp ks op os ns) (shp ks op os ns) ?e1 ?e2 ?e3 _ (Lies.range (range_below (range_drop GG n0 E0.out) q11)) (Lies.range (range_below ma q11))).mono ?_
      case e1 => exact HM.out
      case e2 => exact HM.out
      case e3 => omega
      rintro e w12 ⟨⟨r, rfl, hr⟩, q12⟩
      obtain rfl := hr.2 rfl
      clear hr
      have p12 := p11.trans (q12.mono p11.size)
      go_wp2_with fail
      go_ret
      exact ⟨rfl, p12⟩

set_option maxHeartbeats 1000000 in
theorem walkA_bare (a0 a1 a3 a4 : Option Addr) (n0 n1 n3 n4 c0 c1 c3 c4 : Nat) (op : Int) (ks : List Bool) (w : World) (e1 : n1 = ks.length) (l1 : Lies w a1 (Bs ks))
    (h0 : n0 ≤ 65536) (h1 : n1 ≤ 65536) (h3 : n3 ≤ 65536) (h4 : n4 ≤ 65536) (hop : (op != 73) = true) (hcov : ¬ Cov ks n3) :
    Calls Try.prog 3 #[.slice a0 n0 c0, .slice a1 n1 c1, .int .u8 op, .slice a3 n3 c3, .slice a4 n4 c4] w fun e w' => e = .returned (.bool true) ∧ Below w.heap.size w w' := by
  have E1 : Hid (n1 = ks.length) := e1
  clear e1
  go_enter Try.func3, Try.ntmps3
  go_wp2_with fail
  refine (zz12_any _ _ _ _ _ _ _ _ _ _ _ _ _ _).mono ?_
  rintro e w' ⟨⟨r, rfl, -⟩, rfl⟩
  cases r with
  | false =>
    go_wp2_with fail
    go_ret
    exact ⟨rfl, Below.refl _ _⟩
  | true =>
    go_wp2_with fail
    refine (keys_any a1 n1 c1 ks E1.out a3 n3 c3 h1 w l1).mono ?_
    rintro e w' ⟨⟨r, rfl, hr⟩, rfl⟩
    obtain rfl : r = false := by
      cases r with
      | false => rfl
      | true => exact absurd (hr.1 rfl) hcov
    clear hr
    go_wp2_with fail
    go_ret
    exact ⟨rfl, Below.refl _ _⟩

set_option maxHeartbeats 1000000 in
theorem walkA_long (a0 a1 a3 a4 : Option Addr) (n0 n1 n3 n4 c0 c1 c3 c4 : Nat) (op : Int) (w : World) (h : ¬ (n0 ≤ 65536 ∧ n1 ≤ 65536 ∧ n3 ≤ 65536 ∧ n4 ≤ 65536)) :
    Calls Try.prog 3 #[.slice a0 n0 c0, .slice a1 n1 c1, .int .u8 op, .slice a3 n3 c3, .slice a4 n4 c4] w fun e w' => e = .returned (.bool true) ∧ Below w.heap.size w w' := by
  rcases (show 65536 < n0 ∨ (n0 ≤ 65536 ∧ 65536 < n1) ∨ (n0 ≤ 65536 ∧ n1 ≤ 65536 ∧ 65536 < n3) ∨ (n0 ≤ 65536 ∧ n1 ≤ 65536 ∧ n3 ≤ 65536 ∧ 65536 < n4) by omega) with h0 | ⟨h0, h1⟩ | ⟨h0, h1, h3⟩ | ⟨h0, h1, h3, h4⟩
  all_goals
    clear h
    go_enter Try.func3, Try.ntmps3
    go_wp2_with fail
    refine (zz12_any _ _ _ _ _ _ _ _ _ _ _ _ _ _).mono ?_
    rintro e w' ⟨⟨r, rfl, -⟩, rfl⟩
    cases r with
    | false =>
      go_wp2_with fail
      go_ret
      exact ⟨rfl, Below.refl _ _⟩
    | true =>
      go_wp2_with fail
      go_ret
      exact ⟨rfl, Below.refl _ _⟩

theorem walkA (a0 a1 a3 a4 : Option Addr) (n0 n1 n3 n4 c0 c1 c3 c4 : Nat) (op : Int) (zs : List Int) (ks : List Bool) (os ns : List Int) (w : World)
    (r0 : Came w a0 n0 c0 (U8s zs)) (r1 : Came w a1 n1 c1 (Bs ks)) (r3 : Came w a3 n3 c3 (U8s os)) (r4 : Came w a4 n4 c4 (U8s ns)) :
    Calls Try.prog 3 #[.slice a0 n0 c0, .slice a1 n1 c1, .int .u8 op, .slice a3 n3 c3, .slice a4 n4 c4] w fun e w' => e = .returned (.bool true) ∧ Below w.heap.size w w' := by
  by_cases h : n0 ≤ 65536 ∧ n1 ≤ 65536 ∧ n3 ≤ 65536 ∧ n4 ≤ 65536
  · obtain ⟨h0, h1, h3, h4⟩ := h
    by_cases hop : op = 73
    · exact walkA_main a0 a1 a3 a4 n0 n1 n3 n4 c0 c1 c3 c4 op zs ks os ns w r0 r1 r3 r4 h0 h1 h3 h4 (.inl hop)
    · by_cases hc : Cov ks n3
      · exact walkA_main a0 a1 a3 a4 n0 n1 n3 n4 c0 c1 c3 c4 op zs ks os ns w r0 r1 r3 r4 h0 h1 h3 h4 (.inr ⟨by simpa using hop, hc⟩)
      · exact walkA_bare a0 a1 a3 a4 n0 n1 n3 n4 c0 c1 c3 c4 op ks w (by rw [r1.1, length_Bs]) r1.2.1 h0 h1 h3 h4 (by simpa using hop) hc
  · exact walkA_long a0 a1 a3 a4 n0 n1 n3 n4 c0 c1 c3 c4 op w h
end Go.Proofs.Qxb6000731a
