/-
  THE WALK over FnCheckSourcesExactSpec.
-/
import Derived.Test.Qxb6001262aFmtCheck
import Derived.Test.Qxb6001262aFmtWell
import Derived.Deep.RegionWith
namespace Go.Proofs.Qxb6001262aFmt
open Go.RowKit
open Go.Extern.Stop Go.Stop Go.Extern

set_option maxHeartbeats 1000000 in
theorem walkS (a : Option Addr) (n c : Nat) (ss : List ByteArray) (hn : n = ss.length) (w : World) (h : Lies w a ss) (hab : a = none → n = 0 ∧ c = 0) :
    Calls Tryf.prog 3 #[.slice a n c] w fun e w' => e = .returned (.bool true) ∧ Below w.heap.size w w' := by
  have HN : Hid (n = ss.length) := hn
  have HA : Hid (a = none → n = 0 ∧ c = 0) := hab
  clear hn hab
  by_cases hb : n ≤ 4096
  · go_enter Tryf.func3, Tryf.ntmps3
    go_wp2_with fail
    refine (zz_any a n c ss HN.out w h).mono ?_
    rintro e w' ⟨⟨r, rfl, -⟩, rfl⟩
    cases r with
    | false =>
      go_wp2_with fail
      go_ret
      exact ⟨rfl, Below.refl _ _⟩
    | true =>
      go_wp2_with fail
      refine (bytes_any a n c ss HN.out hb w h).mono ?_
      rintro e w' ⟨⟨z, rfl⟩, rfl⟩
      by_cases hz : (1048576 : Int) < z
      · go_wp2_with fail
        go_ret
        exact ⟨rfl, Below.refl _ _⟩
      · go_wp2_with fail
        refine (clone_any a n c ss HN.out hb w h HA.out).mono ?_
        rintro e w1 ⟨a', rfl, h1, q1⟩
        go_wp2_with fail
        refine (zzcheck_any a' n n ss HN.out hb w1 h1 (Nat.le_refl _)).mono ?_
        rintro e w2 ⟨⟨rfl, hg⟩ | ⟨⟨x, rfl⟩, hg⟩, q2⟩
        · have HG : Hid (Good (Ks ss)) := hg
          clear hg
          have p2 := q1.trans (q2.mono q1.size)
          have h2 := h1.below q2
          go_wp2_with fail
          go_region_with ((go_at_call 10; refine (wf_any a' n n ss HN.out hb _ (by exact h2)).mono ?_; rintro e w3 ⟨⟨r, rfl, hr⟩, q3⟩; obtain rfl := hr.2 HG.out; clear hr))
          all_goals go_wp2_with fail
          all_goals go_ret
          all_goals exact ⟨rfl, p2.drew.trans (q3.mono p2.size)⟩
        · have HG : Hid (¬ Good (Ks ss)) := hg
          clear hg
          have p2 := q1.trans (q2.mono q1.size)
          have h2 := h1.below q2
          go_wp2_with fail
          go_region_with ((go_at_call 10; refine (wf_any a' n n ss HN.out hb _ (by exact h2)).mono ?_; rintro e w3 ⟨⟨r, rfl, hr⟩, q3⟩; obtain rfl : r = false := Bool.eq_false_iff.2 fun e => HG.out (hr.1 e); clear hr))
          all_goals go_wp2_with fail
          all_goals go_ret
          all_goals exact ⟨rfl, p2.drew.trans (q3.mono p2.size)⟩
  · go_enter Tryf.func3, Tryf.ntmps3
    go_wp2_with fail
    refine (zz_any a n c ss HN.out w h).mono ?_
    rintro e w' ⟨⟨r, rfl, -⟩, rfl⟩
    cases r with
    | false =>
      go_wp2_with fail
      go_ret
      exact ⟨rfl, Below.refl _ _⟩
    | true =>
      go_wp2_with fail
      go_ret
      exact ⟨rfl, Below.refl _ _⟩
end Go.Proofs.Qxb6001262aFmt
