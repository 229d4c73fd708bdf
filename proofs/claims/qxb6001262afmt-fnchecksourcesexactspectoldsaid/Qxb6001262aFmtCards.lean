/-
  DERIVED. GIVEN WITH THE SEED: THE CARDS: each row of Qxb6001262aFmtRows.lean that lists a variable, with what it lists TIED to the program's text (the seventh form; the later family's looks); each row that meets fmt, with fmt's text TOLD by the authors' own Lean function (tested against real Go, not proved from fmt's source: count such statements apart). THE CARD IS WHAT COUNTS. Prove the row's statement (the work); the ties are given (Qxb6001262aFmtTie.lean); close each card by the builder's one call (the guide's Derived/Test/ToyasCard.lean, 'card_holds'). Laid BY PROGRAM, IN A SANDBOX (cutbox-door.mjs). By AI agents, Wed Nov 11 2026. No macro, syntax, notation, axiom, sorry.
-/
import Derived.Test.Qxb6001262aFmtRows
import GoSem.ClaimSeven
namespace Go.Proofs.Qxb6001262aFmt
namespace Rows

/-- THE TOLD CARD OF 'zzlaws_internal_catalog_e1.FnCheckSourcesExactSpec'. -/
def fnCheckSourcesExactSpecCard : Claim7 := { stood := { row := fnCheckSourcesExactSpecRow, standIns := [], harness := (true, "67b060b89ec26bae8c84161059931af81fa4f559fe867eae3d66ae11fb74b5c3"), looks := false }, told := true, goes := false }
def FnCheckSourcesExactSpecToldSaid : Prop := Claim7.holds Tryf.pinned (.plain (OpenSpec.ofChange fnCheckSourcesExactSpecSpec)) fnCheckSourcesExactSpecCard
/-- ITS FALSE NEIGHBOUR. Refute it at one input. -/
def FnCheckSourcesExactSpecToldWrongFalsely : Prop := Claim7.holds Tryf.pinned (.plain (OpenSpec.ofChange fnCheckSourcesExactSpecWrong)) fnCheckSourcesExactSpecCard

/-- THE TOLD CARD OF 'zzlaws_internal_catalog_e1.FnCheckSourcesOrderFree'. -/
def fnCheckSourcesOrderFreeCard : Claim7 := { stood := { row := fnCheckSourcesOrderFreeRow, standIns := [], harness := (true, "67b060b89ec26bae8c84161059931af81fa4f559fe867eae3d66ae11fb74b5c3"), looks := false }, told := true, goes := false }
def FnCheckSourcesOrderFreeToldSaid : Prop := Claim7.holds Tryf.pinned (.plain (OpenSpec.ofChange fnCheckSourcesOrderFreeSpec)) fnCheckSourcesOrderFreeCard
/-- ITS FALSE NEIGHBOUR. Refute it at one input. -/
def FnCheckSourcesOrderFreeToldWrongFalsely : Prop := Claim7.holds Tryf.pinned (.plain (OpenSpec.ofChange fnCheckSourcesOrderFreeWrong)) fnCheckSourcesOrderFreeCard

/-- THE TOLD CARD OF 'zzlaws_internal_catalog_e1.FnCheckSourcesDropAndDuplicate'. -/
def fnCheckSourcesDropAndDuplicateCard : Claim7 := { stood := { row := fnCheckSourcesDropAndDuplicateRow, standIns := [], harness := (true, "67b060b89ec26bae8c84161059931af81fa4f559fe867eae3d66ae11fb74b5c3"), looks := false }, told := true, goes := false }
def FnCheckSourcesDropAndDuplicateToldSaid : Prop := Claim7.holds Tryf.pinned (.plain (OpenSpec.ofChange fnCheckSourcesDropAndDuplicateSpec)) fnCheckSourcesDropAndDuplicateCard
/-- ITS FALSE NEIGHBOUR. Refute it at one input. -/
def FnCheckSourcesDropAndDuplicateToldWrongFalsely : Prop := Claim7.holds Tryf.pinned (.plain (OpenSpec.ofChange fnCheckSourcesDropAndDuplicateWrong)) fnCheckSourcesDropAndDuplicateCard
end Rows
end Go.Proofs.Qxb6001262aFmt
