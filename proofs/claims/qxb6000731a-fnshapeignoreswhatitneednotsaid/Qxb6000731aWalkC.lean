/-
  THE WALK over FnShapeIgnoresWhatItNeedNot.
-/
import Derived.Test.Qxb6000731aJoin
import Derived.Test.Qxb6000731aOwnC
import Derived.Deep.DeepCutAuto
namespace Go.Proofs.Qxb6000731a
open Go.RowKit

/-- The old row, its kind at 'col' turned. -/
def alt (os : List Int) (cB : Bool) (col : Int) (kind : Int) : List Int := if cB then os.set col.toNat kind else os

theorem length_alt (os : List Int) (cB : Bool) (col kind : Int) : (alt os cB col kind).length = os.length := by unfold alt; split <;> simp

/-- The kind of an old value outside the key is not looked at. -/
theorem kinds_alt {ks : List Bool} {os : List Int} {cB : Bool} {col kind : Int} (h0 : cB = true → 0 ≤ col) (h : cB = true → ks[col.toNat]?.getD false = false) (n : Nat) : kinds ks (alt os cB col kind) n = kinds ks os n := by
  unfold alt
  cases cB with
  | false => rfl
  | true =>
    have hk := h rfl
    simp only [if_true]
    unfold kinds
    refine List.map_congr_left fun i hi => ?_
    have h2 := (List.mem_filter.1 hi).2
    have hne : col.toNat ≠ i := fun e => by rw [← e, hk] at h2; cases h2
    rw [List.getElem?_set_ne hne]

theorem shp_alt {ks : List Bool} {op : Int} {os os' ns ns' : List Int} (hk : kinds ks os' ks.length = kinds ks os ks.length) (hn : op = 85 → ns' = ns) : shp ks op os ns = shp ks op os' ns' := by
  unfold shp
  rw [hk]
  by_cases h : op = 85
  · rw [hn h]
  · simp only [if_neg h]

set_option maxRecDepth 100000 in
set_option maxHeartbeats 4000000 in
theorem walkC_rest (a0 a2 a3 a4 : Option Addr) (n0 n2 n3 n4 c0 c2 c3 c4 : Nat) (op col kind : Int) (ks : List Bool) (os ns ns2 : List Int) (w : World)
    (r0 : Came w a0 n0 c0 (Bs ks)) (r2 : Came w a2 n2 c2 (U8s os)) (r3 : Came w a3 n3 c3 (U8s ns)) (r4 : Came w a4 n4 c4 (U8s ns2))
    (h0 : n0 ≤ 65536) (h2 : n2 ≤ 65536) (h3 : n3 ≤ 65536) (h4 : n4 ≤ 65536) (hop : (op != 73) = true) (hop2 : (op == 73) = false) (hop3 : (op != 85) = true) (hcov : Cov ks n2) :
    Calls Try.prog 5 #[.slice a0 n0 c0, .int .u8 op, .slice a2 n2 c2, .slice a3 n3 c3, .slice a4 n4 c4, .int .i64 col, .int .u8 kind] w fun e w' => e = .returned (.bool true) ∧ Below w.heap.size w w' := by
  obtain ⟨e0, l0, z0⟩ := r0
  obtain ⟨e2, l2, z2⟩ := r2
  obtain ⟨e3, l3, z3⟩ := r3
  obtain ⟨e4, l4, z4⟩ := r4
  rw [length_U8s] at e2 e3 e4
  rw [length_Bs] at e0
  have E0 : Hid (n0 = ks.length) := e0
  have E2 : Hid (n2 = os.length) := e2
  have E3 : Hid (n3 = ns.length) := e3
  have E4 : Hid (n4 = ns2.length) := e4
  have Z0 : Hid (a0 = none → n0 = 0 ∧ c0 = 0) := z0
  have Z2 : Hid (a2 = none → n2 = 0 ∧ c2 = 0) := z2
  have Z3 : Hid (a3 = none → n3 = 0 ∧ c3 = 0) := z3
  have Z4 : Hid (a4 = none → n4 = 0 ∧ c4 = 0) := z4
  clear e0 e2 e3 e4 z0 z2 z3 z4
  have d0 : decide ((65536 : Int) < (n0 : Int)) = false := decide_eq_false (by omega)
  have d2 : decide ((65536 : Int) < (n2 : Int)) = false := decide_eq_false (by omega)
  have d3 : decide ((65536 : Int) < (n3 : Int)) = false := decide_eq_false (by omega)
  have d4 : decide ((65536 : Int) < (n4 : Int)) = false := decide_eq_false (by omega)
  obtain ⟨M1, hM1⟩ : ∃ M, M = (shp ks op os ns).length := ⟨_, rfl⟩
  have hM1l : M1 ≤ 200000 := by
    have := shp_le ks op os ns
    have e1 := E0.out
    have e4 := E3.out
    omega
  have HM1 : Hid (M1 = (shp ks op os ns).length) := hM1
  have HM2 : Hid (∀ os', kinds ks os' ks.length = kinds ks os ks.length → M1 = (shp ks op os' ns2).length) := fun os' hk => by rw [hM1, shp_alt (op := op) (ns' := ns2) hk (fun e => by rw [e] at hop3; simp at hop3)]
  clear hM1
  go_enter Try.func5, Try.ntmps5
  go_wp2_with fail
  refine (zz21_any _ _ _ _ _ _ _ _ _ _ _ _ _ _ _ _).mono ?_
  rintro e w' ⟨⟨r, rfl, -⟩, rfl⟩
  cases r with
  | false =>
    go_wp2_with fail
    go_ret
    exact ⟨rfl, Below.refl _ _⟩
  | true =>
    go_wp2_with fail
    refine (keys_any a0 n0 c0 ks E0.out a2 n2 c2 h0 w l0).mono ?_
    rintro e w' ⟨⟨r, rfl, hr⟩, rfl⟩
    obtain rfl := hr.2 hcov
    have HC : Hid (Cov ks n2) := hcov
    clear hr hcov
    go_wp2_with fail
    refine (cloneB_any a0 n0 c0 ks E0.out (by omega) _ l0 Z0.out).mono ?_
    rintro e w1 ⟨b0, rfl, m0, q1⟩
    go_wp2_with fail
    refine (clone_any a2 n2 c2 os E2.out (by omega) _ (l2.below q1) Z2.out).mono ?_
    rintro e w2 ⟨b2, rfl, m2, q2, y2⟩
    have Y2 : Hid (b2 = none → n2 = 0 ∧ n2 = 0) := y2
    clear y2
    have p2 := q1.trans (q2.mono q1.size)
    go_wp2_with fail
    refine (clone_any a3 n3 c3 ns E3.out (by omega) _ (l3.below p2) Z3.out).mono ?_
    rintro e w3 ⟨b3, rfl, m3, q3, -⟩
    have p3 := p2.trans (q3.mono p2.size)
    go_wp2_with fail
    refine (clone_any a4 n4 c4 ns2 E4.out (by omega) _ (l4.below p3) Z4.out).mono ?_
    rintro e w4 ⟨b4, rfl, m4, q4, -⟩
    have p4 := p3.trans (q4.mono p3.size)
    have k0 := ((m0.below q2).below q3).below q4
    have k2 := (m2.below q3).below q4
    have k3 := m3.below q4
    clear l0 l2 l3 l4 m0 m2 m3 q1 q2 q3 q4 p2 p3 Z0 Z2 Z3 Z4
    go_wp2_with fail
    refine (rel_any b0 n0 n0 ks E0.out (by omega) _ k0).mono ?_
    rintro e w5 ⟨g, rfl, mr, q5⟩
    have p5 := p4.trans (q5.mono p4.size)
    go_wp2_with fail
    refine (clone_own b2 n2 n2 os E2.out (by omega) _ (k2.below q5) Y2.out).mono ?_
    rintro e w6 ⟨b16, rfl, f16, q6⟩
    have l5 := k0.below q5
    have HCB : Hid (∃ cB : Bool, cB = true ↔ (0 ≤ col ∧ col < (n2 : Int) ∧ (col < (n0 : Int) → ks[col.toNat]?.getD false = false))) := ⟨_, @decide_eq_true_iff _ (Classical.propDecidable _)⟩
    obtain ⟨cB, hcB⟩ := HCB.out
    have HB : Hid (cB = true ↔ (0 ≤ col ∧ col < (n2 : Int) ∧ (col < (n0 : Int) → ks[col.toNat]?.getD false = false))) := hcB
    clear hcB HCB
    go_upto_region 13 with fail
    go_cut [87] (fun s w' => s = .bool cB ∧ w6 = w')
    case first =>
      by_cases c0 : 0 ≤ col
      · obtain ⟨cn, rfl⟩ := Int.eq_ofNat_of_zero_le c0
        by_cases c1 : cn < n2
        · by_cases c2 : cn < n0
          · obtain ⟨v1, v2, rfl, hv⟩ := (l5.below q6).bool (k := cn) (by rw [← E0.out]; exact c2)
            cases hkv : ks[cn]?.getD false with
            | false =>
              rw [hkv] at hv
              obtain rfl : cB = true := HB.out.2 ⟨by omega, by omega, fun _ => by simpa using hkv⟩
              clear HB hkv
              go_wp2_with fail
              go_meet
              case rel => exact ⟨rfl, rfl⟩
            | true =>
              rw [hkv] at hv
              obtain rfl : cB = false := by
                cases cB with
                | false => rfl
                | true => have := (HB.out.1 rfl).2.2 (by omega); simp [hkv] at this
              clear HB hkv
              go_wp2_with fail
              go_meet
              case rel => exact ⟨rfl, rfl⟩
          · obtain rfl : cB = true := HB.out.2 ⟨by omega, by omega, fun h => by omega⟩
            clear HB
            go_wp2_with fail
            go_meet
            case rel => exact ⟨rfl, rfl⟩
        · obtain rfl : cB = false := by
            cases cB with
            | false => rfl
            | true => have := (HB.out.1 rfl).2.1; omega
          clear HB
          go_wp2_with fail
          go_meet
          case rel => exact ⟨rfl, rfl⟩
      · obtain rfl : cB = false := by
          cases cB with
          | false => rfl
          | true => have := (HB.out.1 rfl).1; omega
        clear HB
        go_wp2_with fail
        go_meet
        case rel => exact ⟨rfl, rfl⟩
    case rest =>
      obtain ⟨rfl, rfl⟩ := hcut
      go_upto_if 87 with fail
      go_cut [] (fun w' => Lies w' b16 (U8s (alt os cB col kind)) ∧ Below w5.heap.size w5 w')
      case first =>
        cases cB with
        | false =>
          go_wp2_with fail
          go_meet
          case rel => exact ⟨f16.lies, q6⟩
        | true =>
          obtain ⟨c0, c1, -⟩ := HB.out.1 rfl
          obtain ⟨cn, rfl⟩ := Int.eq_ofNat_of_zero_le c0
          clear HB
          rcases f16 with ⟨-, he⟩ | ⟨g6, rfl, hB6, hg6⟩
          · have e2 := E2.out
            rw [he] at e2
            simp at e2
            omega
          · obtain ⟨hcl, hfz⟩ := fresh_cell hg6 cn (by rw [← E2.out]; omega)
            have HA : Hid (alt os true (cn : Int) kind = os.set cn kind) := by show _ = _; simp [alt]
            have HG : Hid (w6.heap[g6]? = some (.cells (U8s os).toArray 5 (0, 0))) := hg6
            clear hg6
            go_wp2_with fail
            go_meet
            case rel => exact ⟨by rw [HA.out]; exact Lies.range (rangeAt_of_cells (Fresh.store HG.out cn kind)), q6.setCell hB6 _⟩
      case rest =>
        obtain ⟨A16, Q6⟩ := hcut
        obtain ⟨os', hos'⟩ : ∃ os', os' = alt os cB col kind := ⟨_, rfl⟩
        have EO : Hid (n2 = os'.length) := by
          show _ = _
          rw [hos', length_alt, ← E2.out]
        have HK : Hid (kinds ks os' ks.length = kinds ks os ks.length) := by
          show _ = _
          rw [hos']
          refine kinds_alt (fun e => (HB.out.1 e).1) (fun e => ?_) _
          obtain ⟨c0, c1, c2⟩ := HB.out.1 e
          by_cases h : col < (n0 : Int)
          · exact c2 h
          · rw [List.getElem?_eq_none (by have := E0.out; omega)]
            rfl
        rw [← hos'] at A16
        clear hos' HB f16 q6
        have p6 := p5.trans (Q6.mono p5.size)
        go_wp2_with fail
        refine (tuple_any b2 n2 n2 os E2.out (by omega) _ ((k2.below q5).below Q6)).mono ?_
        rintro e w7 ⟨tq, rfl, mo, q7⟩
        have p7 := p6.trans (q7.mono p6.size)
        have s7 := Q6.trans (q7.mono Q6.size)
        go_wp2_with fail
        refine (tuple_any b3 n3 n3 ns E3.out (by omega) _ ((k3.below q5).below s7)).mono ?_
        rintro e w8 ⟨tn, rfl, mn, q8⟩
        have p8 := p7.trans (q8.mono p7.size)
        have s8 := s7.trans (q8.mono s7.size)
        go_wp2_with fail
        refine (zzshape_row op none [] 0 rfl g ks tq tn os ns n2 n2 n3 n3 M1 E2.out E3.out HM1.out _ (by omega) (by rw [← E0.out]; omega) (by omega) (fun _ => HC.out) (mr.below s8) (mo.below q8) mn (fun _ => rfl) (Lies.nil _ _)).mono ?_
        rintro e w9 ⟨g1, cg1, rfl, hcg1, mg1, q9⟩
        have p9 := p8.trans (q9.mono p8.size)
        have s9 := s8.trans (q9.mono s8.size)
        have A9 := ((A16.below q7).below q8).below q9
        clear A16 mo mn q7 q8 q9 s7 s8 p6 p7 p8
        go_wp2_with fail
        refine (tuple_any b16 n2 n2 os' EO.out (by omega) _ A9).mono ?_
        rintro e w10 ⟨tq2, rfl, mo, q10⟩
        have p10 := p9.trans (q10.mono p9.size)
        have s10 := s9.trans (q10.mono s9.size)
        go_wp2_with fail
        refine (tuple_any b4 n4 n4 ns2 E4.out (by omega) _ ((m4.below q5).below s10)).mono ?_
        rintro e w11 ⟨tn2, rfl, mn, q11⟩
        have p11 := p10.trans (q11.mono p10.size)
        have s11 := s10.trans (q11.mono s10.size)
        go_wp2_with fail
        refine (zzshape_row op none [] 0 rfl g ks tq2 tn2 os' ns2 n2 n2 n4 n4 M1 EO.out E4.out (HM2.out os' HK.out) _ (by omega) (by rw [← E0.out]; omega) (by omega) (fun _ => HC.out) (mr.below s11) (mo.below q11) mn (fun _ => rfl) (Lies.nil _ _)).mono ?_
        rintro e w12 ⟨g2, cg2, rfl, hcg2, mg2, q12⟩
        have p12 := p11.trans (q12.mono p11.size)
        have G1 := range_below (range_below (range_below mg1 q10) q11) q12
        rw [List.nil_append] at G1 mg2
        clear mg1 q10 q11 q12 s9 s10 s11 p9 p10 p11 mo mn A9
        go_wp2_with fail
        refine (eq_any _ _ _ _ _ _ (shp ks op os ns) (shp ks op os' ns2) HM1.out (HM2.out os' HK.out) (by omega) _ (Lies.range G1) (Lies.range mg2)).mono ?_
        rintro e w13 ⟨⟨r, rfl, hr⟩, q13⟩
        obtain rfl := hr.2 (shp_alt HK.out (fun e => by rw [e] at hop3; simp at hop3))
        clear hr
        go_wp2_with fail
        go_ret
        exact ⟨rfl, p12.trans (q13.mono p12.size)⟩

set_option maxRecDepth 100000 in
set_option maxHeartbeats 4000000 in
theorem walkC_upd (a0 a2 a3 a4 : Option Addr) (n0 n2 n3 n4 c0 c2 c3 c4 : Nat) (col kind : Int) (ks : List Bool) (os ns ns2 : List Int) (w : World)
    (r0 : Came w a0 n0 c0 (Bs ks)) (r2 : Came w a2 n2 c2 (U8s os)) (r3 : Came w a3 n3 c3 (U8s ns)) (r4 : Came w a4 n4 c4 (U8s ns2))
    (h0 : n0 ≤ 65536) (h2 : n2 ≤ 65536) (h3 : n3 ≤ 65536) (h4 : n4 ≤ 65536) (hcov : Cov ks n2) :
    Calls Try.prog 5 #[.slice a0 n0 c0, .int .u8 85, .slice a2 n2 c2, .slice a3 n3 c3, .slice a4 n4 c4, .int .i64 col, .int .u8 kind] w fun e w' => e = .returned (.bool true) ∧ Below w.heap.size w w' := by
  obtain ⟨e0, l0, z0⟩ := r0
  obtain ⟨e2, l2, z2⟩ := r2
  obtain ⟨e3, l3, z3⟩ := r3
  obtain ⟨e4, l4, z4⟩ := r4
  rw [length_U8s] at e2 e3 e4
  rw [length_Bs] at e0
  have E0 : Hid (n0 = ks.length) := e0
  have E2 : Hid (n2 = os.length) := e2
  have E3 : Hid (n3 = ns.length) := e3
  have E4 : Hid (n4 = ns2.length) := e4
  have Z0 : Hid (a0 = none → n0 = 0 ∧ c0 = 0) := z0
  have Z2 : Hid (a2 = none → n2 = 0 ∧ c2 = 0) := z2
  have Z3 : Hid (a3 = none → n3 = 0 ∧ c3 = 0) := z3
  have Z4 : Hid (a4 = none → n4 = 0 ∧ c4 = 0) := z4
  clear e0 e2 e3 e4 z0 z2 z3 z4
  have d0 : decide ((65536 : Int) < (n0 : Int)) = false := decide_eq_false (by omega)
  have d2 : decide ((65536 : Int) < (n2 : Int)) = false := decide_eq_false (by omega)
  have d3 : decide ((65536 : Int) < (n3 : Int)) = false := decide_eq_false (by omega)
  have d4 : decide ((65536 : Int) < (n4 : Int)) = false := decide_eq_false (by omega)
  obtain ⟨M1, hM1⟩ : ∃ M, M = (shp ks 85 os ns).length := ⟨_, rfl⟩
  have hM1l : M1 ≤ 200000 := by
    have := shp_le ks 85 os ns
    have e1 := E0.out
    have e4 := E3.out
    omega
  have HM1 : Hid (M1 = (shp ks 85 os ns).length) := hM1
  have HM2 : Hid (∀ os', kinds ks os' ks.length = kinds ks os ks.length → M1 = (shp ks 85 os' ns).length) := fun os' hk => by rw [hM1, shp_alt (op := 85) (ns' := ns) hk (fun _ => rfl)]
  clear hM1
  go_enter Try.func5, Try.ntmps5
  go_wp2_with fail
  refine (zz21_any _ _ _ _ _ _ _ _ _ _ _ _ _ _ _ _).mono ?_
  rintro e w' ⟨⟨r, rfl, -⟩, rfl⟩
  cases r with
  | false =>
    go_wp2_with fail
    go_ret
    exact ⟨rfl, Below.refl _ _⟩
  | true =>
    go_wp2_with fail
    refine (keys_any a0 n0 c0 ks E0.out a2 n2 c2 h0 w l0).mono ?_
    rintro e w' ⟨⟨r, rfl, hr⟩, rfl⟩
    obtain rfl := hr.2 hcov
    have HC : Hid (Cov ks n2) := hcov
    clear hr hcov
    go_wp2_with fail
    refine (cloneB_any a0 n0 c0 ks E0.out (by omega) _ l0 Z0.out).mono ?_
    rintro e w1 ⟨b0, rfl, m0, q1⟩
    go_wp2_with fail
    refine (clone_any a2 n2 c2 os E2.out (by omega) _ (l2.below q1) Z2.out).mono ?_
    rintro e w2 ⟨b2, rfl, m2, q2, y2⟩
    have Y2 : Hid (b2 = none → n2 = 0 ∧ n2 = 0) := y2
    clear y2
    have p2 := q1.trans (q2.mono q1.size)
    go_wp2_with fail
    refine (clone_any a3 n3 c3 ns E3.out (by omega) _ (l3.below p2) Z3.out).mono ?_
    rintro e w3 ⟨b3, rfl, m3, q3, -⟩
    have p3 := p2.trans (q3.mono p2.size)
    go_wp2_with fail
    refine (clone_any a4 n4 c4 ns2 E4.out (by omega) _ (l4.below p3) Z4.out).mono ?_
    rintro e w4 ⟨b4, rfl, m4, q4, -⟩
    have p4 := p3.trans (q4.mono p3.size)
    have k0 := ((m0.below q2).below q3).below q4
    have k2 := (m2.below q3).below q4
    have k3 := m3.below q4
    clear l0 l2 l3 l4 m0 m2 m3 q1 q2 q3 q4 p2 p3 Z0 Z2 Z3 Z4
    go_wp2_with fail
    refine (rel_any b0 n0 n0 ks E0.out (by omega) _ k0).mono ?_
    rintro e w5 ⟨g, rfl, mr, q5⟩
    have p5 := p4.trans (q5.mono p4.size)
    go_wp2_with fail
    refine (clone_own b2 n2 n2 os E2.out (by omega) _ (k2.below q5) Y2.out).mono ?_
    rintro e w6 ⟨b16, rfl, f16, q6⟩
    have l5 := k0.below q5
    have HCB : Hid (∃ cB : Bool, cB = true ↔ (0 ≤ col ∧ col < (n2 : Int) ∧ (col < (n0 : Int) → ks[col.toNat]?.getD false = false))) := ⟨_, @decide_eq_true_iff _ (Classical.propDecidable _)⟩
    obtain ⟨cB, hcB⟩ := HCB.out
    have HB : Hid (cB = true ↔ (0 ≤ col ∧ col < (n2 : Int) ∧ (col < (n0 : Int) → ks[col.toNat]?.getD false = false))) := hcB
    clear hcB HCB
    go_upto_region 13 with fail
    go_cut [87] (fun s w' => s = .bool cB ∧ w6 = w')
    case first =>
      by_cases c0 : 0 ≤ col
      · obtain ⟨cn, rfl⟩ := Int.eq_ofNat_of_zero_le c0
        by_cases c1 : cn < n2
        · by_cases c2 : cn < n0
          · obtain ⟨v1, v2, rfl, hv⟩ := (l5.below q6).bool (k := cn) (by rw [← E0.out]; exact c2)
            cases hkv : ks[cn]?.getD false with
            | false =>
              rw [hkv] at hv
              obtain rfl : cB = true := HB.out.2 ⟨by omega, by omega, fun _ => by simpa using hkv⟩
              clear HB hkv
              go_wp2_with fail
              go_meet
              case rel => exact ⟨rfl, rfl⟩
            | true =>
              rw [hkv] at hv
              obtain rfl : cB = false := by
                cases cB with
                | false => rfl
                | true => have := (HB.out.1 rfl).2.2 (by omega); simp [hkv] at this
              clear HB hkv
              go_wp2_with fail
              go_meet
              case rel => exact ⟨rfl, rfl⟩
          · obtain rfl : cB = true := HB.out.2 ⟨by omega, by omega, fun h => by omega⟩
            clear HB
            go_wp2_with fail
            go_meet
            case rel => exact ⟨rfl, rfl⟩
        · obtain rfl : cB = false := by
            cases cB with
            | false => rfl
            | true => have := (HB.out.1 rfl).2.1; omega
          clear HB
          go_wp2_with fail
          go_meet
          case rel => exact ⟨rfl, rfl⟩
      · obtain rfl : cB = false := by
          cases cB with
          | false => rfl
          | true => have := (HB.out.1 rfl).1; omega
        clear HB
        go_wp2_with fail
        go_meet
        case rel => exact ⟨rfl, rfl⟩
    case rest =>
      obtain ⟨rfl, rfl⟩ := hcut
      go_upto_if 87 with fail
      go_cut [] (fun w' => Lies w' b16 (U8s (alt os cB col kind)) ∧ Below w5.heap.size w5 w')
      case first =>
        cases cB with
        | false =>
          go_wp2_with fail
          go_meet
          case rel => exact ⟨f16.lies, q6⟩
        | true =>
          obtain ⟨c0, c1, -⟩ := HB.out.1 rfl
          obtain ⟨cn, rfl⟩ := Int.eq_ofNat_of_zero_le c0
          clear HB
          rcases f16 with ⟨-, he⟩ | ⟨g6, rfl, hB6, hg6⟩
          · have e2 := E2.out
            rw [he] at e2
            simp at e2
            omega
          · obtain ⟨hcl, hfz⟩ := fresh_cell hg6 cn (by rw [← E2.out]; omega)
            have HA : Hid (alt os true (cn : Int) kind = os.set cn kind) := by show _ = _; simp [alt]
            have HG : Hid (w6.heap[g6]? = some (.cells (U8s os).toArray 5 (0, 0))) := hg6
            clear hg6
            go_wp2_with fail
            go_meet
            case rel => exact ⟨by rw [HA.out]; exact Lies.range (rangeAt_of_cells (Fresh.store HG.out cn kind)), q6.setCell hB6 _⟩
      case rest =>
        obtain ⟨A16, Q6⟩ := hcut
        obtain ⟨os', hos'⟩ : ∃ os', os' = alt os cB col kind := ⟨_, rfl⟩
        have EO : Hid (n2 = os'.length) := by
          show _ = _
          rw [hos', length_alt, ← E2.out]
        have HK : Hid (kinds ks os' ks.length = kinds ks os ks.length) := by
          show _ = _
          rw [hos']
          refine kinds_alt (fun e => (HB.out.1 e).1) (fun e => ?_) _
          obtain ⟨c0, c1, c2⟩ := HB.out.1 e
          by_cases h : col < (n0 : Int)
          · exact c2 h
          · rw [List.getElem?_eq_none (by have := E0.out; omega)]
            rfl
        rw [← hos'] at A16
        clear hos' HB f16 q6
        have p6 := p5.trans (Q6.mono p5.size)
        go_wp2_with fail
        refine (tuple_any b2 n2 n2 os E2.out (by omega) _ ((k2.below q5).below Q6)).mono ?_
        rintro e w7 ⟨tq, rfl, mo, q7⟩
        have p7 := p6.trans (q7.mono p6.size)
        have s7 := Q6.trans (q7.mono Q6.size)
        go_wp2_with fail
        refine (tuple_any b3 n3 n3 ns E3.out (by omega) _ ((k3.below q5).below s7)).mono ?_
        rintro e w8 ⟨tn, rfl, mn, q8⟩
        have p8 := p7.trans (q8.mono p7.size)
        have s8 := s7.trans (q8.mono s7.size)
        go_wp2_with fail
        refine (zzshape_row 85 none [] 0 rfl g ks tq tn os ns n2 n2 n3 n3 M1 E2.out E3.out HM1.out _ (by omega) (by rw [← E0.out]; omega) (by omega) (fun _ => HC.out) (mr.below s8) (mo.below q8) mn (fun _ => rfl) (Lies.nil _ _)).mono ?_
        rintro e w9 ⟨g1, cg1, rfl, hcg1, mg1, q9⟩
        have p9 := p8.trans (q9.mono p8.size)
        have s9 := s8.trans (q9.mono s8.size)
        have A9 := ((A16.below q7).below q8).below q9
        clear A16 mo mn q7 q8 q9 s7 s8 p6 p7 p8
        go_wp2_with fail
        refine (tuple_any b16 n2 n2 os' EO.out (by omega) _ A9).mono ?_
        rintro e w10 ⟨tq2, rfl, mo, q10⟩
        have p10 := p9.trans (q10.mono p9.size)
        have s10 := s9.trans (q10.mono s9.size)
        go_wp2_with fail
        refine (tuple_any b3 n3 n3 ns E3.out (by omega) _ ((k3.below q5).below s10)).mono ?_
        rintro e w11 ⟨tn2, rfl, mn, q11⟩
        have p11 := p10.trans (q11.mono p10.size)
        have s11 := s10.trans (q11.mono s10.size)
        go_wp2_with fail
        refine (zzshape_row 85 none [] 0 rfl g ks tq2 tn2 os' ns n2 n2 n3 n3 M1 EO.out E3.out (HM2.out os' HK.out) _ (by omega) (by rw [← E0.out]; omega) (by omega) (fun _ => HC.out) (mr.below s11) (mo.below q11) mn (fun _ => rfl) (Lies.nil _ _)).mono ?_
        rintro e w12 ⟨g2, cg2, rfl, hcg2, mg2, q12⟩
        have p12 := p11.trans (q12.mono p11.size)
        have G1 := range_below (range_below (range_below mg1 q10) q11) q12
        rw [List.nil_append] at G1 mg2
        clear mg1 q10 q11 q12 s9 s10 s11 p9 p10 p11 mo mn A9
        go_wp2_with fail
        refine (eq_any _ _ _ _ _ _ (shp ks 85 os ns) (shp ks 85 os' ns) HM1.out (HM2.out os' HK.out) (by omega) _ (Lies.range G1) (Lies.range mg2)).mono ?_
        rintro e w13 ⟨⟨r, rfl, hr⟩, q13⟩
        obtain rfl := hr.2 (shp_alt HK.out (fun _ => rfl))
        clear hr
        go_wp2_with fail
        go_ret
        exact ⟨rfl, p12.trans (q13.mono p12.size)⟩

set_option maxRecDepth 100000 in
set_option maxHeartbeats 4000000 in
theorem walkC_ins (a0 a2 a3 a4 : Option Addr) (n0 n2 n3 n4 c0 c2 c3 c4 : Nat) (col kind : Int) (ks : List Bool) (os ns ns2 : List Int) (w : World)
    (r0 : Came w a0 n0 c0 (Bs ks)) (r2 : Came w a2 n2 c2 (U8s os)) (r3 : Came w a3 n3 c3 (U8s ns)) (r4 : Came w a4 n4 c4 (U8s ns2))
    (h0 : n0 ≤ 65536) (h2 : n2 ≤ 65536) (h3 : n3 ≤ 65536) (h4 : n4 ≤ 65536)  :
    Calls Try.prog 5 #[.slice a0 n0 c0, .int .u8 73, .slice a2 n2 c2, .slice a3 n3 c3, .slice a4 n4 c4, .int .i64 col, .int .u8 kind] w fun e w' => e = .returned (.bool true) ∧ Below w.heap.size w w' := by
  obtain ⟨e0, l0, z0⟩ := r0
  obtain ⟨e2, l2, z2⟩ := r2
  obtain ⟨e3, l3, z3⟩ := r3
  obtain ⟨e4, l4, z4⟩ := r4
  rw [length_U8s] at e2 e3 e4
  rw [length_Bs] at e0
  have E0 : Hid (n0 = ks.length) := e0
  have E2 : Hid (n2 = os.length) := e2
  have E3 : Hid (n3 = ns.length) := e3
  have E4 : Hid (n4 = ns2.length) := e4
  have Z0 : Hid (a0 = none → n0 = 0 ∧ c0 = 0) := z0
  have Z2 : Hid (a2 = none → n2 = 0 ∧ c2 = 0) := z2
  have Z3 : Hid (a3 = none → n3 = 0 ∧ c3 = 0) := z3
  have Z4 : Hid (a4 = none → n4 = 0 ∧ c4 = 0) := z4
  clear e0 e2 e3 e4 z0 z2 z3 z4
  have d0 : decide ((65536 : Int) < (n0 : Int)) = false := decide_eq_false (by omega)
  have d2 : decide ((65536 : Int) < (n2 : Int)) = false := decide_eq_false (by omega)
  have d3 : decide ((65536 : Int) < (n3 : Int)) = false := decide_eq_false (by omega)
  have d4 : decide ((65536 : Int) < (n4 : Int)) = false := decide_eq_false (by omega)
  obtain ⟨M1, hM1⟩ : ∃ M, M = (shp ks 73 os ns).length := ⟨_, rfl⟩
  have hM1l : M1 ≤ 200000 := by
    have := shp_le ks 73 os ns
    have e1 := E0.out
    have e4 := E3.out
    omega
  have HM1 : Hid (M1 = (shp ks 73 os ns).length) := hM1
  have HM2 : Hid (∀ os', kinds ks os' ks.length = kinds ks os ks.length → M1 = (shp ks 73 os' ns2).length) := fun os' hk => by rw [hM1, shp_alt (op := 73) (ns' := ns2) hk (fun e => by cases e)]
  clear hM1
  go_enter Try.func5, Try.ntmps5
  go_wp2_with fail
  refine (zz21_any _ _ _ _ _ _ _ _ _ _ _ _ _ _ _ _).mono ?_
  rintro e w' ⟨⟨r, rfl, -⟩, rfl⟩
  cases r with
  | false =>
    go_wp2_with fail
    go_ret
    exact ⟨rfl, Below.refl _ _⟩
  | true =>
    
    go_wp2_with fail
    refine (cloneB_any a0 n0 c0 ks E0.out (by omega) _ l0 Z0.out).mono ?_
    rintro e w1 ⟨b0, rfl, m0, q1⟩
    go_wp2_with fail
    refine (clone_any a2 n2 c2 os E2.out (by omega) _ (l2.below q1) Z2.out).mono ?_
    rintro e w2 ⟨b2, rfl, m2, q2, y2⟩
    have Y2 : Hid (b2 = none → n2 = 0 ∧ n2 = 0) := y2
    clear y2
    have p2 := q1.trans (q2.mono q1.size)
    go_wp2_with fail
    refine (clone_any a3 n3 c3 ns E3.out (by omega) _ (l3.below p2) Z3.out).mono ?_
    rintro e w3 ⟨b3, rfl, m3, q3, -⟩
    have p3 := p2.trans (q3.mono p2.size)
    go_wp2_with fail
    refine (clone_any a4 n4 c4 ns2 E4.out (by omega) _ (l4.below p3) Z4.out).mono ?_
    rintro e w4 ⟨b4, rfl, m4, q4, -⟩
    have p4 := p3.trans (q4.mono p3.size)
    have k0 := ((m0.below q2).below q3).below q4
    have k2 := (m2.below q3).below q4
    have k3 := m3.below q4
    clear l0 l2 l3 l4 m0 m2 m3 q1 q2 q3 q4 p2 p3 Z0 Z2 Z3 Z4
    go_wp2_with fail
    refine (rel_any b0 n0 n0 ks E0.out (by omega) _ k0).mono ?_
    rintro e w5 ⟨g, rfl, mr, q5⟩
    have p5 := p4.trans (q5.mono p4.size)
    go_wp2_with fail
    refine (clone_own b2 n2 n2 os E2.out (by omega) _ (k2.below q5) Y2.out).mono ?_
    rintro e w6 ⟨b16, rfl, f16, q6⟩
    have l5 := k0.below q5
    have HCB : Hid (∃ cB : Bool, cB = true ↔ (0 ≤ col ∧ col < (n2 : Int) ∧ (col < (n0 : Int) → ks[col.toNat]?.getD false = false))) := ⟨_, @decide_eq_true_iff _ (Classical.propDecidable _)⟩
    obtain ⟨cB, hcB⟩ := HCB.out
    have HB : Hid (cB = true ↔ (0 ≤ col ∧ col < (n2 : Int) ∧ (col < (n0 : Int) → ks[col.toNat]?.getD false = false))) := hcB
    clear hcB HCB
    go_upto_region 13 with fail
    go_cut [87] (fun s w' => s = .bool cB ∧ w6 = w')
    case first =>
      by_cases c0 : 0 ≤ col
      · obtain ⟨cn, rfl⟩ := Int.eq_ofNat_of_zero_le c0
        by_cases c1 : cn < n2
        · by_cases c2 : cn < n0
          · obtain ⟨v1, v2, rfl, hv⟩ := (l5.below q6).bool (k := cn) (by rw [← E0.out]; exact c2)
            cases hkv : ks[cn]?.getD false with
            | false =>
              rw [hkv] at hv
              obtain rfl : cB = true := HB.out.2 ⟨by omega, by omega, fun _ => by simpa using hkv⟩
              clear HB hkv
              go_wp2_with fail
              go_meet
              case rel => exact ⟨rfl, rfl⟩
            | true =>
              rw [hkv] at hv
              obtain rfl : cB = false := by
                cases cB with
                | false => rfl
                | true => have := (HB.out.1 rfl).2.2 (by omega); simp [hkv] at this
              clear HB hkv
              go_wp2_with fail
              go_meet
              case rel => exact ⟨rfl, rfl⟩
          · obtain rfl : cB = true := HB.out.2 ⟨by omega, by omega, fun h => by omega⟩
            clear HB
            go_wp2_with fail
            go_meet
            case rel => exact ⟨rfl, rfl⟩
        · obtain rfl : cB = false := by
            cases cB with
            | false => rfl
            | true => have := (HB.out.1 rfl).2.1; omega
          clear HB
          go_wp2_with fail
          go_meet
          case rel => exact ⟨rfl, rfl⟩
      · obtain rfl : cB = false := by
          cases cB with
          | false => rfl
          | true => have := (HB.out.1 rfl).1; omega
        clear HB
        go_wp2_with fail
        go_meet
        case rel => exact ⟨rfl, rfl⟩
    case rest =>
      obtain ⟨rfl, rfl⟩ := hcut
      go_upto_if 87 with fail
      go_cut [] (fun w' => Lies w' b16 (U8s (alt os cB col kind)) ∧ Below w5.heap.size w5 w')
      case first =>
        cases cB with
        | false =>
          go_wp2_with fail
          go_meet
          case rel => exact ⟨f16.lies, q6⟩
        | true =>
          obtain ⟨c0, c1, -⟩ := HB.out.1 rfl
          obtain ⟨cn, rfl⟩ := Int.eq_ofNat_of_zero_le c0
          clear HB
          rcases f16 with ⟨-, he⟩ | ⟨g6, rfl, hB6, hg6⟩
          · have e2 := E2.out
            rw [he] at e2
            simp at e2
            omega
          · obtain ⟨hcl, hfz⟩ := fresh_cell hg6 cn (by rw [← E2.out]; omega)
            have HA : Hid (alt os true (cn : Int) kind = os.set cn kind) := by show _ = _; simp [alt]
            have HG : Hid (w6.heap[g6]? = some (.cells (U8s os).toArray 5 (0, 0))) := hg6
            clear hg6
            go_wp2_with fail
            go_meet
            case rel => exact ⟨by rw [HA.out]; exact Lies.range (rangeAt_of_cells (Fresh.store HG.out cn kind)), q6.setCell hB6 _⟩
      case rest =>
        obtain ⟨A16, Q6⟩ := hcut
        obtain ⟨os', hos'⟩ : ∃ os', os' = alt os cB col kind := ⟨_, rfl⟩
        have EO : Hid (n2 = os'.length) := by
          show _ = _
          rw [hos', length_alt, ← E2.out]
        have HK : Hid (kinds ks os' ks.length = kinds ks os ks.length) := by
          show _ = _
          rw [hos']
          refine kinds_alt (fun e => (HB.out.1 e).1) (fun e => ?_) _
          obtain ⟨c0, c1, c2⟩ := HB.out.1 e
          by_cases h : col < (n0 : Int)
          · exact c2 h
          · rw [List.getElem?_eq_none (by have := E0.out; omega)]
            rfl
        rw [← hos'] at A16
        clear hos' HB f16 q6
        have p6 := p5.trans (Q6.mono p5.size)
        go_wp2_with fail
        refine (tuple_any b2 n2 n2 os E2.out (by omega) _ ((k2.below q5).below Q6)).mono ?_
        rintro e w7 ⟨tq, rfl, mo, q7⟩
        have p7 := p6.trans (q7.mono p6.size)
        have s7 := Q6.trans (q7.mono Q6.size)
        go_wp2_with fail
        refine (tuple_any b3 n3 n3 ns E3.out (by omega) _ ((k3.below q5).below s7)).mono ?_
        rintro e w8 ⟨tn, rfl, mn, q8⟩
        have p8 := p7.trans (q8.mono p7.size)
        have s8 := s7.trans (q8.mono s7.size)
        go_wp2_with fail
        refine (zzshape_row 73 none [] 0 rfl g ks tq tn os ns n2 n2 n3 n3 M1 E2.out E3.out HM1.out _ (by omega) (by rw [← E0.out]; omega) (by omega) (fun h => absurd rfl h) (mr.below s8) (mo.below q8) mn (fun _ => rfl) (Lies.nil _ _)).mono ?_
        rintro e w9 ⟨g1, cg1, rfl, hcg1, mg1, q9⟩
        have p9 := p8.trans (q9.mono p8.size)
        have s9 := s8.trans (q9.mono s8.size)
        have A9 := ((A16.below q7).below q8).below q9
        clear A16 mo mn q7 q8 q9 s7 s8 p6 p7 p8
        go_wp2_with fail
        refine (tuple_any b16 n2 n2 os' EO.out (by omega) _ A9).mono ?_
        rintro e w10 ⟨tq2, rfl, mo, q10⟩
        have p10 := p9.trans (q10.mono p9.size)
        have s10 := s9.trans (q10.mono s9.size)
        go_wp2_with fail
        refine (tuple_any b4 n4 n4 ns2 E4.out (by omega) _ ((m4.below q5).below s10)).mono ?_
        rintro e w11 ⟨tn2, rfl, mn, q11⟩
        have p11 := p10.trans (q11.mono p10.size)
        have s11 := s10.trans (q11.mono s10.size)
        go_wp2_with fail
        refine (zzshape_row 73 none [] 0 rfl g ks tq2 tn2 os' ns2 n2 n2 n4 n4 M1 EO.out E4.out (HM2.out os' HK.out) _ (by omega) (by rw [← E0.out]; omega) (by omega) (fun h => absurd rfl h) (mr.below s11) (mo.below q11) mn (fun _ => rfl) (Lies.nil _ _)).mono ?_
        rintro e w12 ⟨g2, cg2, rfl, hcg2, mg2, q12⟩
        have p12 := p11.trans (q12.mono p11.size)
        have G1 := range_below (range_below (range_below mg1 q10) q11) q12
        rw [List.nil_append] at G1 mg2
        clear mg1 q10 q11 q12 s9 s10 s11 p9 p10 p11 mo mn A9
        have i0 : w12.cell? ⟨g1, 0, none⟩ = some (.int .u8 73) := G1 0 _ rfl
        obtain rfl : M1 = 1 := HM1.out
        go_wp2_with fail
        refine (eq_any _ _ _ _ _ _ (shp ks 73 os ns) (shp ks 73 os' ns2) HM1.out (HM2.out os' HK.out) (by omega) _ (Lies.range G1) (Lies.range mg2)).mono ?_
        rintro e w13 ⟨⟨r, rfl, hr⟩, q13⟩
        obtain rfl := hr.2 (shp_alt HK.out (fun e => by cases e))
        clear hr
        go_wp2_with fail
        go_ret
        exact ⟨rfl, p12.trans (q13.mono p12.size)⟩

set_option maxHeartbeats 1000000 in
theorem walkC_bare (a0 a2 a3 a4 : Option Addr) (n0 n2 n3 n4 c0 c2 c3 c4 : Nat) (op col kind : Int) (ks : List Bool) (w : World) (e0 : n0 = ks.length) (l0 : Lies w a0 (Bs ks))
    (h0 : n0 ≤ 65536) (h2 : n2 ≤ 65536) (h3 : n3 ≤ 65536) (h4 : n4 ≤ 65536) (hop : (op != 73) = true) (hcov : ¬ Cov ks n2) :
    Calls Try.prog 5 #[.slice a0 n0 c0, .int .u8 op, .slice a2 n2 c2, .slice a3 n3 c3, .slice a4 n4 c4, .int .i64 col, .int .u8 kind] w fun e w' => e = .returned (.bool true) ∧ Below w.heap.size w w' := by
  have E0 : Hid (n0 = ks.length) := e0
  clear e0
  go_enter Try.func5, Try.ntmps5
  go_wp2_with fail
  refine (zz21_any _ _ _ _ _ _ _ _ _ _ _ _ _ _ _ _).mono ?_
  rintro e w' ⟨⟨r, rfl, -⟩, rfl⟩
  cases r with
  | false =>
    go_wp2_with fail
    go_ret
    exact ⟨rfl, Below.refl _ _⟩
  | true =>
    go_wp2_with fail
    refine (keys_any a0 n0 c0 ks E0.out a2 n2 c2 h0 w l0).mono ?_
    rintro e w' ⟨⟨r, rfl, hr⟩, rfl⟩
    obtain rfl : r = false := by
      cases r with
      | false => rfl
      | true => exact absurd (hr.1 rfl) hcov
    clear hr
    go_wp2_with fail
    go_ret
    exact ⟨rfl, Below.refl _ _⟩

set_option maxHeartbeats 1000000 in
theorem walkC_long (a0 a2 a3 a4 : Option Addr) (n0 n2 n3 n4 c0 c2 c3 c4 : Nat) (op col kind : Int) (w : World) (h : ¬ (n0 ≤ 65536 ∧ n2 ≤ 65536 ∧ n3 ≤ 65536 ∧ n4 ≤ 65536)) :
    Calls Try.prog 5 #[.slice a0 n0 c0, .int .u8 op, .slice a2 n2 c2, .slice a3 n3 c3, .slice a4 n4 c4, .int .i64 col, .int .u8 kind] w fun e w' => e = .returned (.bool true) ∧ Below w.heap.size w w' := by
  rcases (show 65536 < n0 ∨ (n0 ≤ 65536 ∧ 65536 < n2) ∨ (n0 ≤ 65536 ∧ n2 ≤ 65536 ∧ 65536 < n3) ∨ (n0 ≤ 65536 ∧ n2 ≤ 65536 ∧ n3 ≤ 65536 ∧ 65536 < n4) by omega) with h0 | ⟨h0, h1⟩ | ⟨h0, h1, h3⟩ | ⟨h0, h1, h3, h4⟩
  all_goals
    clear h
    go_enter Try.func5, Try.ntmps5
    go_wp2_with fail
    refine (zz21_any _ _ _ _ _ _ _ _ _ _ _ _ _ _ _ _).mono ?_
    rintro e w' ⟨⟨r, rfl, -⟩, rfl⟩
    cases r with
    | false =>
      go_wp2_with fail
      go_ret
      exact ⟨rfl, Below.refl _ _⟩
    | true =>
      go_wp2_with fail
      go_ret
      exact ⟨rfl, Below.refl _ _⟩

theorem walkC (a0 a2 a3 a4 : Option Addr) (n0 n2 n3 n4 c0 c2 c3 c4 : Nat) (op col kind : Int) (ks : List Bool) (os ns ns2 : List Int) (w : World)
    (r0 : Came w a0 n0 c0 (Bs ks)) (r2 : Came w a2 n2 c2 (U8s os)) (r3 : Came w a3 n3 c3 (U8s ns)) (r4 : Came w a4 n4 c4 (U8s ns2)) :
    Calls Try.prog 5 #[.slice a0 n0 c0, .int .u8 op, .slice a2 n2 c2, .slice a3 n3 c3, .slice a4 n4 c4, .int .i64 col, .int .u8 kind] w fun e w' => e = .returned (.bool true) ∧ Below w.heap.size w w' := by
  by_cases h : n0 ≤ 65536 ∧ n2 ≤ 65536 ∧ n3 ≤ 65536 ∧ n4 ≤ 65536
  · obtain ⟨h0, h2, h3, h4⟩ := h
    by_cases hop : op = 73
    · subst hop
      exact walkC_ins a0 a2 a3 a4 n0 n2 n3 n4 c0 c2 c3 c4 col kind ks os ns ns2 w r0 r2 r3 r4 h0 h2 h3 h4
    · by_cases hc : Cov ks n2
      · by_cases hop' : op = 85
        · subst hop'
          exact walkC_upd a0 a2 a3 a4 n0 n2 n3 n4 c0 c2 c3 c4 col kind ks os ns ns2 w r0 r2 r3 r4 h0 h2 h3 h4 hc
        · exact walkC_rest a0 a2 a3 a4 n0 n2 n3 n4 c0 c2 c3 c4 op col kind ks os ns ns2 w r0 r2 r3 r4 h0 h2 h3 h4 (by simpa using hop) (by simpa using hop) (by simpa using hop') hc
      · exact walkC_bare a0 a2 a3 a4 n0 n2 n3 n4 c0 c2 c3 c4 op col kind ks w (by rw [r0.1, length_Bs]) r0.2.1 h0 h2 h3 h4 (by simpa using hop) hc
  · exact walkC_long a0 a2 a3 a4 n0 n2 n3 n4 c0 c2 c3 c4 op col kind w h

end Go.Proofs.Qxb6000731a
