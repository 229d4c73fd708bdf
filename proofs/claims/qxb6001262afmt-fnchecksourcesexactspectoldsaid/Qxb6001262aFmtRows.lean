/-
  No cell of these rows narrows 'for every input' (looked for: loops, veiled, ifaces, maps, wideKeys, modest, calm, conditions, laid).
  DERIVED. THE GIVEN ROWS OF THIS SEAT. 3 by the template 'for every input the law returns true; each argument reads behind the call as it read before'; 0 by the template 'total and deterministic' (their statements: Qxb6001262aFmtTotals.lean).
  GIVEN WITH THE SEED: the statements are not yours to turn. If you find one false, say at which input.
  Laid BY PROGRAM, IN A SANDBOX (cutbox-rows.mjs): the forced cells as the released guide's own fill.sh prints them over the translation 13bf429a5316bf23… (all of the seat's roots in one cut). By AI agents, Wed Nov 11 2026. No macro, syntax, notation, axiom, sorry.
-/
import Derived.Test.Qxb6001262aFmtChecked
import GoSem.Claim
import GoSem.ClaimJoined
import GoSem.ClaimMapViews
import Derived.JoinedTies
import Derived.KernelRfl
namespace Go.Proofs.Qxb6001262aFmt
/- THE CELL 'sum', in the pinned program and in every row, IS THE sha256 OF THE DUMP (.gsa) THAT Qxb6001262aFmtProg.lean LOADS. Nothing in Lean hashes anything: it is a label: what it is worth is what the hold of that sum in a sandbox is worth. -/
noncomputable def Tryf.pinned : Pinned := { name := "qxb6001262afmt", sum := "13bf429a5316bf23eb1985a239ec8d4e2fef9ea24d730f3cb083d6bb6b98249f", checked := Tryf.checked }
namespace Rows
def none {H : Type} : Left H := { results := [], args := [] }

/-- 'zzlaws_internal_catalog_e1.FnCheckSourcesExactSpec': WHATEVER THE INPUT: true; the input reads as it did. -/
def fnCheckSourcesExactSpecSpec : ChangeSpec := { name := "fnCheckSourcesExactSpec", fn := fun _ => fun
  | [d] => { results := [.lit (.bool true)], args := [d] }
  | _ => none }
def fnCheckSourcesExactSpecRow : OpenClaim := { program := "qxb6001262afmt", sum := "13bf429a5316bf23eb1985a239ec8d4e2fef9ea24d730f3cb083d6bb6b98249f", func := "example.com/glewlwyd/glewlwyd/zzlaws_internal_catalog_e1.FnCheckSourcesExactSpec", spec := "fnCheckSourcesExactSpec", stops := ["fmt.errorf"], inPlace := ["fmt.errorf"], apart := false }
/-- NO THEOREM (fmt's text is open here; it may be false): for the released tool's asking of the row's closed facts alone. THE STATEMENT IS 'FnCheckSourcesExactSpecToldSaid' (Qxb6001262aFmtCards.lean). -/
def FnCheckSourcesExactSpecFormAsk : Prop := fnCheckSourcesExactSpecRow.holds Tryf.pinned (OpenSpec.ofChange fnCheckSourcesExactSpecSpec)

/-- ITS FALSE NEIGHBOUR: 'it returns false'. Refute it at one input. -/
def fnCheckSourcesExactSpecWrong : ChangeSpec := { name := "fnCheckSourcesExactSpec", fn := fun _ => fun
  | [d] => { results := [.lit (.bool false)], args := [d] }
  | _ => none }
def FnCheckSourcesExactSpecWrongFormAsk : Prop := fnCheckSourcesExactSpecRow.holds Tryf.pinned (OpenSpec.ofChange fnCheckSourcesExactSpecWrong)

/-- 'zzlaws_internal_catalog_e1.FnCheckSourcesOrderFree': WHATEVER THE INPUT: true; the input reads as it did. -/
def fnCheckSourcesOrderFreeSpec : ChangeSpec := { name := "fnCheckSourcesOrderFree", fn := fun _ => fun
  | [d] => { results := [.lit (.bool true)], args := [d] }
  | _ => none }
def fnCheckSourcesOrderFreeRow : OpenClaim := { program := "qxb6001262afmt", sum := "13bf429a5316bf23eb1985a239ec8d4e2fef9ea24d730f3cb083d6bb6b98249f", func := "example.com/glewlwyd/glewlwyd/zzlaws_internal_catalog_e1.FnCheckSourcesOrderFree", spec := "fnCheckSourcesOrderFree", stops := ["fmt.errorf"], inPlace := ["fmt.errorf"], apart := false }
/-- NO THEOREM (fmt's text is open here; it may be false): for the released tool's asking of the row's closed facts alone. THE STATEMENT IS 'FnCheckSourcesOrderFreeToldSaid' (Qxb6001262aFmtCards.lean). -/
def FnCheckSourcesOrderFreeFormAsk : Prop := fnCheckSourcesOrderFreeRow.holds Tryf.pinned (OpenSpec.ofChange fnCheckSourcesOrderFreeSpec)

/-- ITS FALSE NEIGHBOUR: 'it returns false'. Refute it at one input. -/
def fnCheckSourcesOrderFreeWrong : ChangeSpec := { name := "fnCheckSourcesOrderFree", fn := fun _ => fun
  | [d] => { results := [.lit (.bool false)], args := [d] }
  | _ => none }
def FnCheckSourcesOrderFreeWrongFormAsk : Prop := fnCheckSourcesOrderFreeRow.holds Tryf.pinned (OpenSpec.ofChange fnCheckSourcesOrderFreeWrong)

/-- 'zzlaws_internal_catalog_e1.FnCheckSourcesDropAndDuplicate': WHATEVER THE INPUT: true; the input reads as it did. -/
def fnCheckSourcesDropAndDuplicateSpec : ChangeSpec := { name := "fnCheckSourcesDropAndDuplicate", fn := fun _ => fun
  | [d1, d2] => { results := [.lit (.bool true)], args := [d1, d2] }
  | _ => none }
def fnCheckSourcesDropAndDuplicateRow : OpenClaim := { program := "qxb6001262afmt", sum := "13bf429a5316bf23eb1985a239ec8d4e2fef9ea24d730f3cb083d6bb6b98249f", func := "example.com/glewlwyd/glewlwyd/zzlaws_internal_catalog_e1.FnCheckSourcesDropAndDuplicate", spec := "fnCheckSourcesDropAndDuplicate", stops := ["fmt.errorf"], inPlace := ["fmt.errorf"], apart := false }
/-- NO THEOREM (fmt's text is open here; it may be false): for the released tool's asking of the row's closed facts alone. THE STATEMENT IS 'FnCheckSourcesDropAndDuplicateToldSaid' (Qxb6001262aFmtCards.lean). -/
def FnCheckSourcesDropAndDuplicateFormAsk : Prop := fnCheckSourcesDropAndDuplicateRow.holds Tryf.pinned (OpenSpec.ofChange fnCheckSourcesDropAndDuplicateSpec)

/-- ITS FALSE NEIGHBOUR: 'it returns false'. Refute it at one input. -/
def fnCheckSourcesDropAndDuplicateWrong : ChangeSpec := { name := "fnCheckSourcesDropAndDuplicate", fn := fun _ => fun
  | [d1, d2] => { results := [.lit (.bool false)], args := [d1, d2] }
  | _ => none }
def FnCheckSourcesDropAndDuplicateWrongFormAsk : Prop := fnCheckSourcesDropAndDuplicateRow.holds Tryf.pinned (OpenSpec.ofChange fnCheckSourcesDropAndDuplicateWrong)

end Rows
end Go.Proofs.Qxb6001262aFmt
