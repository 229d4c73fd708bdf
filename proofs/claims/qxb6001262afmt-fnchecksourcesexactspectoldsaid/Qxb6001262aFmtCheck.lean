/-
  THE WALK over checkSources: errors.New, fmt.Errorf (its text is not looked at), the loop.
-/
import Derived.Test.Qxb6001262aFmtSmall
namespace Go.Proofs.Qxb6001262aFmt
open Go.RowKit
open Go.Extern.Stop Go.Stop Go.Extern

/-! ### Closed facts on fmt's stopped front -/
theorem Tryf.call17 (args : Array Value) (w : World) : (callFunc 17 args).run Tryf.prog w = ((FmtStop.errorf #[9, 36] #[27] args).run Tryf.prog w).andThen fun v w' => .ok (.value v) w' :=
  run_callFunc_extern Tryf.func17 (by kernel_rfl) (by kernel_rfl) (by kernel_rfl) (by kernel_rfl) args w
theorem Tryf.guard (name : String) (w : World) : (FmtStop.guard name).run Tryf.prog w = .ok () w := by kernel_rfl
def Tryf.shape9 : List UInt8 := [12, 6, 0, 0, 0, 0, 0, 0, 0, 115, 116, 114, 105, 110, 103]
theorem Tryf.op9_113w (name : String) (x : ByteArray) (w : World) : (FmtStop.operand name true 113 false (.iface 9 (.string x))).run Tryf.prog w = .ok (Tryf.shape9, FmtStop.pack x.data.toList) w := by kernel_rfl
theorem Tryf.ptr33 (w : World) : (FmtStop.ptrTo "errors.errorString").run Tryf.prog w = .ok 33 w := by kernel_rfl
theorem Tryf.elem33 (w : World) : (elemOf 33).run Tryf.prog w = .ok 35 w := by kernel_rfl

def fTwice : ByteArray := ⟨#[115, 111, 117, 114, 99, 101, 32, 37, 113, 32, 105, 115, 32, 108, 105, 115, 116, 101, 100, 32, 116, 119, 105, 99, 101]⟩
def fNone : ByteArray := ⟨#[115, 111, 117, 114, 99, 101, 32, 37, 113, 32, 105, 115, 32, 116, 104, 101, 32, 110, 97, 109, 101, 32, 97, 110, 115, 119, 101, 114, 115, 32, 103, 105, 118, 101, 32, 119, 104, 101, 110, 32, 110, 111, 32, 115, 111, 117, 114, 99, 101, 32, 101, 110, 116, 105, 116, 108, 101, 115]⟩
theorem Tryf.fmtTwice (w : World) : (FmtDoors.printed fTwice 1).run Tryf.prog w = .ok [(0, 113, false)] w := by kernel_rfl
theorem Tryf.fmtNone (w : World) : (FmtDoors.printed fNone 1).run Tryf.prog w = .ok [(0, 113, false)] w := by kernel_rfl

/-- fmt.Errorf of one string under a format that prints it once, by a verb that asks nothing of it: a new error. -/
theorem errorf_any (f : ByteArray) (hf : ∀ w : World, (FmtDoors.printed f 1).run Tryf.prog w = .ok [(0, 113, false)] w) (b : Nat) (s : ByteArray) (w : World) (hc : w.cell? ⟨b, 0, none⟩ = some (.iface 9 (.string s))) :
    Calls Tryf.prog 15 #[.string f, .slice (some ⟨b, 0, none⟩) 1 1] w fun e w' => (∃ x, e = .returned (.iface 33 x)) ∧ Below w.heap.size w w' := by
  have k1 := Tryf.call17
  have k2 := Tryf.guard
  have k3 := Tryf.op9_113w
  have k4 := Tryf.ptr33
  have k5 := Tryf.elem33
  go_enter Tryf.func15, Tryf.ntmps15
  go_wp2
  go_ret
  exact ⟨⟨_, rfl⟩, ((Below.refl _ _).alloc (Nat.le_refl _) _).drew⟩

theorem new_any (s : ByteArray) (w : World) : Calls Tryf.prog 14 #[.string s] w fun e w' => (∃ x, e = .returned (.iface 33 x)) ∧ Below w.heap.size w w' := by
  go_enter Tryf.func14, Tryf.ntmps14
  go_wp2
  go_ret
  exact ⟨⟨_, rfl⟩, (Below.refl _ _).alloc (Nat.le_refl _) _⟩

/-- The call hands back an error: nil just where p. -/
def ErrSays (p : Prop) (e : Ending) : Prop := (e = .returned .nilIface ∧ p) ∨ (∃ x, e = .returned (.iface 33 x)) ∧ ¬ p

set_option maxHeartbeats 1000000 in
theorem check_any (a : Option Addr) (n c : Nat) (ss : List ByteArray) (hn : n = ss.length) (hb : n ≤ 4096) (w : World) (h : Lies w a ss) (hcap : n ≤ c) :
    Calls Tryf.prog 13 #[.slice a n c] w fun e w' => ErrSays (Good (Ks ss)) e ∧ Below w.heap.size w w' := by
  have HN : Hid (n = ss.length) := hn
  clear hn
  go_enter Tryf.func13, Tryf.ntmps13
  go_wp2_with fail
  go_loop [7] (fun i => ∃ k : Nat, k ≤ n ∧ i = .int .i64 k ∧ Hid (FineTo (Ks ss) k)) (fun i => n - (intOf i).toNat)
  case atStart => exact ⟨0, Nat.zero_le _, rfl, fun j x hj => absurd hj (Nat.not_lt_zero _)⟩
  case round =>
    obtain ⟨k, hk, rfl, hfine⟩ := hrel
    by_cases hlt : k < n
    · obtain ⟨b, o, x, rfl, hx, hc⟩ := h.str (k := k) (by rw [← HN.out]; exact hlt)
      have HX : Hid (FineTo (Ks ss) (k + 1) ↔ FineTo (Ks ss) k ∧ (x.toList ≠ [] ∧ x.toList ≠ NONE) ∧ x.toList ∉ (Ks ss).take k) := FineTo.succ (Ks_at hx)
      have HG : Hid (¬ FineTo (Ks ss) (k + 1) → ¬ Good (Ks ss)) := fun hno hg => hno fun i t hi ht => ((good_of_fine _).2 hg).1 i t (by rw [length_Ks]; have := HN.out; omega) ht
      clear hx
      cases he : x.toList.isEmpty with
      | true =>
        have HE : Hid (¬ FineTo (Ks ss) (k + 1)) := fun hf => (HX.out.1 hf).2.1.1 (by simpa using he)
        go_wp2_with fail
        refine (new_any _ _).mono ?_
        rintro e w1 ⟨⟨y, rfl⟩, q1⟩
        go_wp2_with fail
        go_ret
        exact ⟨.inr ⟨⟨_, rfl⟩, HG.out HE.out⟩, q1⟩
      | false =>
        cases hno : (x.toList == [78, 79, 78, 69]) with
        | true =>
          have HE : Hid (¬ FineTo (Ks ss) (k + 1)) := fun hf => (HX.out.1 hf).2.1.2 (by simpa [NONE] using hno)
          go_wp2_with fail
          refine (errorf_any _ (fun w => Tryf.fmtNone w) w.heap.size x _ (by simp)).mono ?_
          rintro e w1 ⟨⟨y, rfl⟩, q1⟩
          go_wp2_with fail
          go_ret
          exact ⟨.inr ⟨⟨_, rfl⟩, HG.out HE.out⟩, ((Below.refl _ _).alloc (Nat.le_refl _) _).trans (q1.mono (by simp))⟩
        | false =>
          have HE : Hid (x.toList ≠ [] ∧ x.toList ≠ NONE) := ⟨by simpa using he, by simpa [NONE] using hno⟩
          go_wp2_with fail
          refine (contains_any _ k c (ss.take k) x (by rw [List.length_take]; have := HN.out; omega) (by omega) _ (h.take k)).mono ?_
          rintro e w' ⟨⟨r, rfl, hr⟩, rfl⟩
          rw [Ks_take] at hr
          have HR : Hid (r = true ↔ x.toList ∈ (Ks ss).take k) := hr
          clear hr
          cases r with
          | true =>
            have HF : Hid (¬ FineTo (Ks ss) (k + 1)) := fun hf => (HX.out.1 hf).2.2 (HR.out.1 rfl)
            clear HR HX
            go_wp2_with fail
            refine (errorf_any _ (fun w => Tryf.fmtTwice w) w.heap.size x _ (by simp)).mono ?_
            rintro e w1 ⟨⟨y, rfl⟩, q1⟩
            go_wp2_with fail
            go_ret
            exact ⟨.inr ⟨⟨_, rfl⟩, HG.out HF.out⟩, ((Below.refl _ _).alloc (Nat.le_refl _) _).trans (q1.mono (by simp))⟩
          | false =>
            have HF : Hid (FineTo (Ks ss) (k + 1)) := HX.out.2 ⟨hfine.out, HE.out, fun hm => by have := HR.out.2 hm; cases this⟩
            clear HR HX HG
            go_wp2_with fail
            go_round
            case rel => exact ⟨k + 1, by omega, by go_num, HF⟩
            case measure => simp [intOf]; omega
    · have HF : Hid (FineTo (Ks ss) (Ks ss).length) := by
        have := HN.out
        have e : k = (Ks ss).length := by rw [length_Ks]; omega
        rw [← e]
        exact hfine
      clear hfine
      go_wp2_with fail
      refine (contains_any a n c ss _ HN.out (by omega) _ h).mono ?_
      rintro e w' ⟨⟨r, rfl, hr⟩, rfl⟩
      have HR : Hid (r = true ↔ STORE ∈ Ks ss) := hr.trans (by rw [show (⟨#[83, 84, 79, 82, 69]⟩ : ByteArray).toList = STORE from by simp [STORE]])
      clear hr
      cases r with
      | true =>
        have HG : Hid (Good (Ks ss)) := (good_of_fine _).1 ⟨HF.out, HR.out.1 rfl⟩
        clear HR HF
        go_wp2_with fail
        go_ret
        exact ⟨.inl ⟨rfl, HG.out⟩, Below.refl _ _⟩
      | false =>
        have HG : Hid (¬ Good (Ks ss)) := fun hg => by have := HR.out.2 hg.2; cases this
        clear HR HF
        go_wp2_with fail
        refine (errorf_any _ (fun _ => by kernel_rfl) w.heap.size _ _ (by simp; rfl)).mono ?_
        rintro e w1 ⟨⟨y, rfl⟩, q1⟩
        go_wp2_with fail
        go_ret
        exact ⟨.inr ⟨⟨_, rfl⟩, HG.out⟩, ((Below.refl _ _).alloc (Nat.le_refl _) _).trans (q1.mono (by simp))⟩

set_option maxHeartbeats 400000 in
theorem zzcheck_any (a : Option Addr) (n c : Nat) (ss : List ByteArray) (hn : n = ss.length) (hb : n ≤ 4096) (w : World) (h : Lies w a ss) (hcap : n ≤ c) :
    Calls Tryf.prog 9 #[.slice a n c] w fun e w' => ErrSays (Good (Ks ss)) e ∧ Below w.heap.size w w' := by
  have HI : Hid (Calls Tryf.prog 13 #[.slice a n c] w fun e w' => ErrSays (Good (Ks ss)) e ∧ Below w.heap.size w w') := check_any a n c ss hn hb w h hcap
  clear hn h
  go_enter Tryf.func9, Tryf.ntmps9
  go_wp2_with fail
  refine HI.out.mono ?_
  rintro e w' ⟨⟨rfl, hg⟩ | ⟨⟨x, rfl⟩, hg⟩, q⟩
  · have HG : Hid (Good (Ks ss)) := hg
    clear hg HI
    go_wp2_with fail
    go_ret
    exact ⟨.inl ⟨rfl, HG.out⟩, q⟩
  · have HG : Hid (¬ Good (Ks ss)) := hg
    clear hg HI
    go_wp2_with fail
    go_ret
    exact ⟨.inr ⟨⟨_, rfl⟩, HG.out⟩, q⟩

end Go.Proofs.Qxb6001262aFmt
