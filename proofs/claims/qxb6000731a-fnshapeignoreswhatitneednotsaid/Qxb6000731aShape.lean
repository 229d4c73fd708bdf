/-
  THE WALK over 'shape' and 'ZZshape'.
-/
import Derived.Test.Qxb6000731aProg
import Derived.Test.Qxb6000731aParts
import Derived.WalkSpells
import Derived.WalkLawsBesides
namespace Go.Proofs.Qxb6000731a
open Go.RowKit

theorem Try.info5 : (Try.prog.info? 5).map (fun i => (i.zero, i.size, i.bytes)) = some (some (.int .u8 0), 1, 1) := by kernel_rfl

/-- 'append(b, m)', b a row of the call's own. -/
theorem app_own {w : World} {ops : Array Oper} {rest : List Oper} {o : Oper} {a : Act} {Q : Exit → Act → World → Prop} (hgd : o.guard = none) (s x : Operand)
    (ho : o.op = Op.call { callee := Callee.builtin Builtin.append, args := #[s, x], argTypes := #[22, 22] })
    (B : Nat) (v : Value) (L : List Int) (m : Int) (g : Nat) (hs : a.eval s = v) (hx : a.eval x = .slice (some ⟨g, 0, none⟩) 1 1) (hown : Own B w v L) (hg : w.cell? ⟨g, 0, none⟩ = some (.int .u8 m))
    (hl : L.length ≤ 1000000) (hB : B ≤ w.heap.size)
    (h : ∀ v' w', Own B w' v' (L ++ [m]) → Below B w w' → wpList Try.prog ops Q rest (a.put o.dst v') w') : wpList Try.prog ops Q (o :: rest) a w := by
  obtain ⟨i0, hi, hz0, hz1, hz2⟩ := info_parts Try.info5
  refine wpList_append_own _ hgd s x 22 ho B 5 i0 (.int .u8 0) 1 1 Try.underlying22 hi hz0 hz1 hz2 rfl (by decide) v L.length (U8s L) hs hown ⟨g, 0, none⟩ 1 1 [.int .u8 m] hx rfl ?_ ?_ ?_ ?_ hB ?_
  · intro j u hj
    match j, hj with
    | 0, hj => simp at hj; subst hj; rw [Addr.add_mid]; exact hg
  · intro u hu; simp at hu; subst hu; rfl
  · unfold maxLen; omega
  · omega
  · intro v' w' hown' hgrow _
    refine h v' w' ?_ ((Below.refl B w).grown hgrow hB fun k hk => (World.ownsRow.lt hown k hk).1)
    have e : U8s (L ++ [m]) = U8s L ++ [.int .u8 m] := by simp [U8s]
    unfold Own
    rw [e, List.length_append]
    exact hown'

/-- 'append(b, m)', b a slice that came in, full to its capacity. -/
theorem app_first {w : World} {ops : Array Oper} {rest : List Oper} {o : Oper} {a : Act} {Q : Exit → Act → World → Prop} (hgd : o.guard = none) (s x : Operand)
    (ho : o.op = Op.call { callee := Callee.builtin Builtin.append, args := #[s, x], argTypes := #[22, 22] })
    (B : Nat) (ab : Option Addr) (n : Nat) (L : List Int) (m : Int) (g : Nat) (hs : a.eval s = .slice ab n n) (hx : a.eval x = .slice (some ⟨g, 0, none⟩) 1 1) (hn : n = L.length) (hab : ab = none → n = 0) (hL : Lies w ab (U8s L)) (hg : w.cell? ⟨g, 0, none⟩ = some (.int .u8 m))
    (hl : L.length ≤ 1000000) (hB : B ≤ w.heap.size)
    (h : ∀ v' w', Own B w' v' (L ++ [m]) → Below B w w' → wpList Try.prog ops Q rest (a.put o.dst v') w') : wpList Try.prog ops Q (o :: rest) a w := by
  obtain ⟨i0, hi, hz0, hz1, hz2⟩ := info_parts Try.info5
  subst hn
  refine wpList_append_grows _ hgd s x 22 ho 5 i0 (.int .u8 0) 1 1 Try.underlying22 hi hz0 hz1 hz2 rfl (by decide) ab L.length L.length (U8s L) hs (fun e => ⟨hab e, hab e⟩) (by simp [U8s]) ?_ ⟨g, 0, none⟩ 1 1 [.int .u8 m] hx rfl ?_ ?_ (by omega) ?_ ?_ ?_
  · intro b hb j u hu
    obtain ⟨b', o', e, hc⟩ := hL j u hu
    rw [hb] at e
    cases e
    rw [Addr.add_mid]; exact hc
  · intro j u hj
    match j, hj with
    | 0, hj => simp at hj; subst hj; rw [Addr.add_mid]; exact hg
  · intro u hu; simp at hu; subst hu; rfl
  · unfold maxLen; omega
  · omega
  · intro v' w' hown' hgrow
    refine h v' w' ?_ ((Below.refl B w).grown hgrow hB fun k hk => by cases hk)
    have e : U8s (L ++ [m]) = U8s L ++ [.int .u8 m] := by simp [U8s]
    unfold Own
    rw [e, List.length_append]
    refine ⟨hown'.1, ?_⟩
    rcases hown'.2 with h0 | ⟨g', cap, cur, h1, h2, h3⟩
    · exact .inl h0
    · exact .inr ⟨g', cap, cur, h1, by omega, h3⟩

set_option maxHeartbeats 400000 in
theorem shape_ins (ab : Option Addr) (zs : List Int) (n : Nat) (hn : n = zs.length) (g : Nat) (ao an : Option Addr) (no co nn cn : Nat) (w : World) (hz : n ≤ 70000)
    (hab : ab = none → n = 0) (hb : Lies w ab (U8s zs)) :
    Calls Try.prog 43 #[.slice ab n n, .pointer (some ⟨g, 0, none⟩), .int .u8 73, .slice ao no co, .slice an nn cn] w fun e w' =>
      ∃ v, e = .returned v ∧ Own w.heap.size w' v (zs ++ [73]) ∧ Below w.heap.size w w' := by
  have HN : Hid (n = zs.length) := hn
  clear hn
  go_enter Try.func43, Try.ntmps43
  go_wp2_with (at_builtin; refine app_first rfl (.tmp 16) (.tmp 18) rfl w.heap.size ab n zs 73 w.heap.size rfl rfl HN.out hab (hb.below ((Below.refl _ _).alloc (Nat.le_refl _) _)) ?h1 ?h2 ?h3 ?_)
  case h1 => simp
  case h2 => have := HN.out; omega
  case h3 => simp
  intro v1 w1 hown1 hb1
  go_wp2
  go_ret
  exact ⟨v1, rfl, hown1, ((Below.refl _ _).alloc (Nat.le_refl _) _).trans hb1⟩

set_option maxHeartbeats 1000000 in
theorem shape_else (op : Int) (h73 : (op == 73) = false) (ab : Option Addr) (zs : List Int) (n : Nat) (hn : n = zs.length) (g : Nat) (ks : List Bool) (ao an : Option Addr) (os : List Int) (no co nn cn : Nat) (hno : no = os.length) (w : World)
    (hz : n ≤ 70000) (hks : ks.length ≤ 70000) (hcov : Cov ks no) (hrel : RelAt w g ks) (ho : Lies w ao (tupCells os))
    (hab : ab = none → n = 0) (hb : Lies w ab (U8s zs)) (h85 : (op == 85) = false) :
    Calls Try.prog 43 #[.slice ab n n, .pointer (some ⟨g, 0, none⟩), .int .u8 op, .slice ao no co, .slice an nn cn] w fun e w' =>
      ∃ v, e = .returned v ∧ Own w.heap.size w' v (zs ++ (op :: kinds ks os ks.length)) ∧ Below w.heap.size w w' := by
  have HN : Hid (n = zs.length) := hn
  have HO : Hid (no = os.length) := hno
  clear hn hno
  obtain ⟨kn, hkn⟩ : ∃ kn, kn = ks.length := ⟨_, rfl⟩
  obtain ⟨ca, hca, hcols⟩ := hrel
  rw [← hkn] at hca hks
  have HK : Hid (kn = ks.length) := hkn
  clear hkn
  go_enter Try.func43, Try.ntmps43
  go_wp2_with (at_builtin; refine app_first rfl (.tmp 16) (.tmp 18) rfl w.heap.size ab n zs op w.heap.size rfl rfl HN.out hab (hb.below ((Below.refl _ _).alloc (Nat.le_refl _) _)) ?h1 ?h2 ?h3 ?_)
  case h1 => simp
  case h2 => have := HN.out; omega
  case h3 => simp
  intro v1 w1 hown1 hb1
  have hbw : Below w.heap.size w w1 := ((Below.refl _ _).alloc (Nat.le_refl _) _).trans hb1
  clear hb1
  have hca1 : w1.cell? ⟨g, 3, none⟩ = some (.slice ca kn kn) := by rw [hbw.cell (p := ⟨g, 3, none⟩) (World.block_lt_of_cell? w _ hca)]; exact hca
  go_wp2
  go_loopw [0, 47] (fun v i wr => ∃ (k : Nat) (L : List Int), k ≤ kn ∧ i = .int .i64 k ∧ Own w.heap.size wr v L ∧ Hid (L = zs ++ (op :: kinds ks os k)) ∧ Below w.heap.size w wr) (fun _ i _ => kn - (intOf i).toNat)
  case atStart => exact ⟨0, _, Nat.zero_le _, rfl, hown1, rfl, hbw⟩
  case round =>
    obtain ⟨k, L, hk, rfl, hown, HL, hbel⟩ := hrel
    by_cases hlt : k < kn
    · obtain ⟨b, o, rfl, c0, c1, c2, c3⟩ := (hcols.below hbel).col (k := k) (by rw [← HK.out]; exact hlt)
      cases hv : ks[k]?.getD false with
      | false =>
        rw [hv] at c1
        have HV : Hid (ks[k]?.getD false = false) := hv
        clear hv
        go_wp2
        go_roundw
        case rel => exact ⟨k + 1, L, by omega, by go_num, hown.alloc _, by rw [kinds_no HV.out]; exact HL, hbel.alloc hbel.size _⟩
        case measure => simp [intOf]; omega
      | true =>
        rw [hv] at c1
        have HV : Hid (ks[k]?.getD false = true) := hv
        clear hv
        have hko : k < no := by
          refine Nat.lt_of_not_le fun hle => ?_
          have := hcov k (by rw [← HK.out]; exact hlt) hle
          rw [HV.out] at this
          cases this
        obtain ⟨b', o', rfl, t0, t1⟩ := (ho.below hbel).tup (k := k) (by rw [← HO.out]; exact hko)
        have tb : b' < wr.heap.size := World.block_lt_of_cell? wr _ t0
        have hLl : L.length ≤ 150000 := by
          have h1 := kinds_le ks os k
          have h2 := congrArg List.length HL.out
          have h3 := HN.out
          simp at h2; omega
        go_wp2_with (at_builtin; refine app_own rfl (.tmp 54) (.tmp 60) rfl w.heap.size _ L (os[k]?.getD 0) (wr.heap.size + 1) rfl rfl ((hown.alloc _).alloc _) ?g1 ?g2 ?g3 ?_)
        case g1 => simp
        case g2 => omega
        case g3 => have := hbel.size; simp; omega
        intro v2 w2 hown2 hb2
        have hbel2 : Below w.heap.size w w2 := ((hbel.alloc hbel.size _).alloc (by have := hbel.size; simp; omega) _).trans hb2
        clear hb2
        go_wp2
        go_roundw
        case rel => exact ⟨k + 1, _, by omega, by go_num, hown2, by rw [kinds_yes HV.out, HL.out]; show _ = _; simp, hbel2⟩
        case measure => simp [intOf]; omega
    · have e : k = kn := by omega
      have HF : Hid (L = zs ++ (op :: kinds ks os ks.length)) := by rw [← HK.out, ← e]; exact HL
      clear e HL
      go_wp2
      go_ret
      exact ⟨_, rfl, by rw [← HF.out]; exact hown, hbel⟩

set_option maxHeartbeats 2000000 in
theorem shape_upd (ab : Option Addr) (zs : List Int) (n : Nat) (hn : n = zs.length) (g : Nat) (ks : List Bool) (ao an : Option Addr) (os ns : List Int) (no co nn cn : Nat) (hno : no = os.length) (hnn : nn = ns.length) (w : World)
    (hz : n ≤ 70000) (hks : ks.length ≤ 70000) (hnl : nn ≤ 70000) (hcov : Cov ks no) (hrel : RelAt w g ks) (ho : Lies w ao (tupCells os)) (hnw : Lies w an (tupCells ns))
    (hab : ab = none → n = 0) (hb : Lies w ab (U8s zs)) :
    Calls Try.prog 43 #[.slice ab n n, .pointer (some ⟨g, 0, none⟩), .int .u8 85, .slice ao no co, .slice an nn cn] w fun e w' =>
      ∃ v, e = .returned v ∧ Own w.heap.size w' v (zs ++ (85 :: (marks ns ++ 47 :: kinds ks os ks.length))) ∧ Below w.heap.size w w' := by
  have HN : Hid (n = zs.length) := hn
  have HO : Hid (no = os.length) := hno
  have HM : Hid (nn = ns.length) := hnn
  clear hn hno hnn
  obtain ⟨kn, hkn⟩ : ∃ kn, kn = ks.length := ⟨_, rfl⟩
  obtain ⟨ca, hca, hcols⟩ := hrel
  rw [← hkn] at hca hks
  have HK : Hid (kn = ks.length) := hkn
  clear hkn
  go_enter Try.func43, Try.ntmps43
  go_wp2_with (at_builtin; refine app_first rfl (.tmp 16) (.tmp 18) rfl w.heap.size ab n zs 85 w.heap.size rfl rfl HN.out hab (hb.below ((Below.refl _ _).alloc (Nat.le_refl _) _)) ?h1 ?h2 ?h3 ?_)
  case h1 => simp
  case h2 => have := HN.out; omega
  case h3 => simp
  intro v1 w1 hown1 hb1
  have hbw : Below w.heap.size w w1 := ((Below.refl _ _).alloc (Nat.le_refl _) _).trans hb1
  clear hb1
  go_wp2
  go_loopw [0, 27] (fun v i wr => ∃ (k : Nat) (L : List Int), k ≤ nn ∧ i = .int .i64 k ∧ Own w.heap.size wr v L ∧ Hid (L = zs ++ (85 :: marks (ns.take k))) ∧ Below w.heap.size w wr) (fun _ i _ => nn - (intOf i).toNat)
  case atStart => exact ⟨0, _, Nat.zero_le _, rfl, hown1, rfl, hbw⟩
  case round =>
    obtain ⟨k, L, hk, rfl, hown, HL, hbel⟩ := hrel
    clear hown1 hbw
    have hLl : L.length ≤ 150000 := by
      have h2 := congrArg List.length HL.out
      have h3 := HN.out
      simp [marks] at h2; omega
    by_cases hlt : k < nn
    · obtain ⟨b, o, rfl, c0, c1⟩ := (hnw.below hbel).tup (k := k) (by rw [← HM.out]; exact hlt)
      have HS : Hid (marks (ns.take (k + 1)) = marks (ns.take k) ++ [if ns[k]?.getD 0 = 117 then 117 else 115]) := marks_take_succ ns k (by rw [← HM.out]; exact hlt)
      by_cases hv : ns[k]?.getD 0 = 117
      · rw [hv] at c0
        have HV : Hid (ns[k]?.getD 0 = 117) := hv
        clear hv
        go_wp2_with (at_builtin; refine app_own rfl (.tmp 34) (.tmp 36) rfl w.heap.size _ L 117 (wr.heap.size + 1) rfl rfl ((hown.alloc _).alloc _) ?g1 ?g2 ?g3 ?_)
        case g1 => simp
        case g2 => omega
        case g3 => have := hbel.size; simp; omega
        intro v2 w2 hown2 hb2
        have hbel2 : Below w.heap.size w w2 := ((hbel.alloc hbel.size _).alloc (by have := hbel.size; simp; omega) _).trans hb2
        clear hb2
        go_wp2
        go_roundw
        case rel => exact ⟨k + 1, _, by omega, by go_num, hown2, by rw [HS.out, HL.out, if_pos HV.out]; show _ = _; simp, hbel2⟩
        case measure => simp [intOf]; omega
      · have HV : Hid (¬ ns[k]?.getD 0 = 117) := hv
        have hne : (ns[k]?.getD 0 == 117) = false := by simpa using hv
        clear hv
        go_wp2_with (at_builtin; refine app_own rfl (.tmp 34) (.tmp 36) rfl w.heap.size _ L 115 (wr.heap.size + 1) rfl rfl ((hown.alloc _).alloc _) ?g4 ?g5 ?g6 ?_)
        case g4 => simp
        case g5 => omega
        case g6 => have := hbel.size; simp; omega
        intro v2 w2 hown2 hb2
        have hbel2 : Below w.heap.size w w2 := ((hbel.alloc hbel.size _).alloc (by have := hbel.size; simp; omega) _).trans hb2
        clear hb2
        go_wp2
        go_roundw
        case rel => exact ⟨k + 1, _, by omega, by go_num, hown2, by rw [HS.out, HL.out, if_neg HV.out]; show _ = _; simp, hbel2⟩
        case measure => simp [intOf]; omega
    · have e : k = nn := by omega
      have HF : Hid (L = zs ++ (85 :: marks ns)) := by
        have h1 := HL.out
        rw [e, HM.out, List.take_length] at h1
        exact h1
      clear e HL
      obtain ⟨wm, rfl⟩ : ∃ wm : World, wm = wr := ⟨_, rfl⟩
      go_wp2_with (at_builtin; refine app_own rfl (.tmp 39) (.tmp 40) rfl w.heap.size _ L 47 wm.heap.size rfl rfl (hown.alloc _) ?k1 ?k2 ?k3 ?_)
      case k1 => simp
      case k2 => omega
      case k3 => have := hbel.size; simp; omega
      intro v2 w2 hown2 hb2
      have hbw : Below w.heap.size w w2 := (hbel.alloc hbel.size _).trans hb2
      clear hb2 hown hbel hk hlt hnw
      have hca2 : w2.cell? ⟨g, 3, none⟩ = some (.slice ca kn kn) := by rw [hbw.cell (p := ⟨g, 3, none⟩) (World.block_lt_of_cell? w _ hca)]; exact hca
      go_wp2
      go_loopw [0, 47] (fun v i wr => ∃ (k : Nat) (M : List Int), k ≤ kn ∧ i = .int .i64 k ∧ Own w.heap.size wr v M ∧ Hid (M = L ++ (47 :: kinds ks os k)) ∧ Below w.heap.size w wr) (fun _ i _ => kn - (intOf i).toNat)
      case atStart => exact ⟨0, _, Nat.zero_le _, rfl, hown2, rfl, hbw⟩
      case round =>
        obtain ⟨k, M, hk, rfl, hown, HL, hbel⟩ := hrel
        clear hown2 hbw
        by_cases hlt : k < kn
        · obtain ⟨b, o, rfl, c0, c1, c2, c3⟩ := (hcols.below hbel).col (k := k) (by rw [← HK.out]; exact hlt)
          cases hv : ks[k]?.getD false with
          | false =>
            rw [hv] at c1
            have HV : Hid (ks[k]?.getD false = false) := hv
            clear hv
            go_wp2
            go_roundw
            case rel => exact ⟨k + 1, M, by omega, by go_num, hown.alloc _, by rw [kinds_no HV.out]; exact HL, hbel.alloc hbel.size _⟩
            case measure => simp [intOf]; omega
          | true =>
            rw [hv] at c1
            have HV : Hid (ks[k]?.getD false = true) := hv
            clear hv
            have hko : k < no := by
              refine Nat.lt_of_not_le fun hle => ?_
              have := hcov k (by rw [← HK.out]; exact hlt) hle
              rw [HV.out] at this
              cases this
            obtain ⟨b', o', rfl, t0, t1⟩ := (ho.below hbel).tup (k := k) (by rw [← HO.out]; exact hko)
            have tb : b' < wr.heap.size := World.block_lt_of_cell? wr _ t0
            have hMl : M.length ≤ 250000 := by
              have h1 := kinds_le ks os k
              have h2 := congrArg List.length HL.out
              simp at h2; omega
            go_wp2_with (at_builtin; refine app_own rfl (.tmp 54) (.tmp 60) rfl w.heap.size _ M (os[k]?.getD 0) (wr.heap.size + 1) rfl rfl ((hown.alloc _).alloc _) ?m1 ?m2 ?m3 ?_)
            case m1 => simp
            case m2 => omega
            case m3 => have := hbel.size; simp; omega
            intro v3 w3 hown3 hb3
            have hbel3 : Below w.heap.size w w3 := ((hbel.alloc hbel.size _).alloc (by have := hbel.size; simp; omega) _).trans hb3
            clear hb3
            go_wp2
            go_roundw
            case rel => exact ⟨k + 1, _, by omega, by go_num, hown3, by rw [kinds_yes HV.out, HL.out]; show _ = _; simp, hbel3⟩
            case measure => simp [intOf]; omega
        · have e : k = kn := by omega
          have HG : Hid (M = zs ++ (85 :: (marks ns ++ 47 :: kinds ks os ks.length))) := by
            have h1 := HL.out
            rw [e, HK.out, HF.out] at h1
            show M = _
            rw [h1]; simp
          clear e HL HF
          go_wp2
          go_ret
          exact ⟨_, rfl, by rw [← HG.out]; exact hown, hbel⟩

/-- 'shape': it appends to b what decides the SQL of a change. -/
theorem shape_any (op : Int) (ab : Option Addr) (zs : List Int) (n : Nat) (hn : n = zs.length) (g : Nat) (ks : List Bool) (ao an : Option Addr) (os ns : List Int) (no co nn cn : Nat) (hno : no = os.length) (hnn : nn = ns.length) (w : World)
    (hz : n ≤ 70000) (hks : ks.length ≤ 70000) (hnl : nn ≤ 70000) (hcov : ¬ op = 73 → Cov ks no) (hrel : RelAt w g ks) (ho : Lies w ao (tupCells os)) (hnw : Lies w an (tupCells ns))
    (hab : ab = none → n = 0) (hb : Lies w ab (U8s zs)) :
    Calls Try.prog 43 #[.slice ab n n, .pointer (some ⟨g, 0, none⟩), .int .u8 op, .slice ao no co, .slice an nn cn] w fun e w' =>
      ∃ v, e = .returned v ∧ Own w.heap.size w' v (zs ++ shp ks op os ns) ∧ Below w.heap.size w w' := by
  by_cases h73 : op = 73
  · subst h73
    exact shape_ins ab zs n hn g ao an no co nn cn w hz hab hb
  · by_cases h85 : op = 85
    · subst h85
      exact shape_upd ab zs n hn g ks ao an os ns no co nn cn hno hnn w hz hks hnl (hcov h73) hrel ho hnw hab hb
    · have e : shp ks op os ns = op :: kinds ks os ks.length := by rw [shp, if_neg h73, if_neg h85]
      rw [e]
      exact shape_else op (by simpa using h73) ab zs n hn g ks ao an os no co nn cn hno w hz hks (hcov h73) hrel ho hab hb (by simpa using h85)

set_option maxHeartbeats 400000 in
theorem zzshape_any (op : Int) (ab : Option Addr) (zs : List Int) (n : Nat) (hn : n = zs.length) (g : Nat) (ks : List Bool) (ao an : Option Addr) (os ns : List Int) (no co nn cn : Nat) (hno : no = os.length) (hnn : nn = ns.length) (w : World)
    (hz : n ≤ 70000) (hks : ks.length ≤ 70000) (hnl : nn ≤ 70000) (hcov : ¬ op = 73 → Cov ks no) (hrel : RelAt w g ks) (ho : Lies w ao (tupCells os)) (hnw : Lies w an (tupCells ns))
    (hab : ab = none → n = 0) (hb : Lies w ab (U8s zs)) :
    Calls Try.prog 18 #[.slice ab n n, .pointer (some ⟨g, 0, none⟩), .int .u8 op, .slice ao no co, .slice an nn cn] w fun e w' =>
      ∃ v, e = .returned v ∧ Own w.heap.size w' v (zs ++ shp ks op os ns) ∧ Below w.heap.size w w' := by
  have H := shape_any op ab zs n hn g ks ao an os ns no co nn cn hno hnn w hz hks hnl hcov hrel ho hnw hab hb
  have HH : Hid (Calls Try.prog 43 #[.slice ab n n, .pointer (some ⟨g, 0, none⟩), .int .u8 op, .slice ao no co, .slice an nn cn] w fun e w' => ∃ v, e = .returned v ∧ Own w.heap.size w' v (zs ++ shp ks op os ns) ∧ Below w.heap.size w w') := H
  clear H hn hno hnn hz hks hnl hcov hrel ho hnw hab hb
  go_enter Try.func18, Try.ntmps18
  go_wp2_with fail
  refine HH.out.mono ?_
  rintro e w' ⟨v, rfl, h1, h2⟩
  go_wp2
  go_ret
  exact ⟨v, rfl, h1, h2⟩

end Go.Proofs.Qxb6000731a
