/-
  DERIVED. GIVEN WITH THE SEED: THE CARDS: each row of YbulkcsfqFmtRows.lean that lists a variable, with what it lists TIED to the program's text (the seventh form; the later family's looks); each row that meets fmt, with fmt's text TOLD by the authors' own Lean function (tested against real Go, not proved from fmt's source: count such statements apart). THE CARD IS WHAT COUNTS. Prove the row's statement (the work); the ties are given (YbulkcsfqFmtTie.lean); close each card by the builder's one call (the guide's Derived/Test/ToyasCard.lean, 'card_holds'). Laid BY PROGRAM, IN A SANDBOX (cutbox-door.mjs). By AI agents, Wed Nov 11 2026. No macro, syntax, notation, axiom, sorry.
-/
import Derived.Test.YbulkcsfqFmtRows
import GoSem.ClaimSeven
namespace Go.Proofs.YbulkcsfqFmt
namespace Rows

/-- THE TOLD CARD OF 'contract.LawS4696BModel'. -/
def lawS4696BModelCard : Claim7 := { stood := { row := lawS4696BModelRow, standIns := [], harness := (true, "7ad10fda2aaa6642a7f667dc9aca2ee76ecaf64e672836c2a7cc53d32f15bb1c"), looks := true }, told := true, goes := false }
def LawS4696BModelToldSaid : Prop := Claim7.holds Ybaf.pinned (.plain (OpenSpec.ofChange lawS4696BModelSpec)) lawS4696BModelCard
/-- ITS FALSE NEIGHBOUR. Refute it at one input. -/
def LawS4696BModelToldWrongFalsely : Prop := Claim7.holds Ybaf.pinned (.plain (OpenSpec.ofChange lawS4696BModelWrong)) lawS4696BModelCard

/-- THE TOLD CARD OF 'contract.LawS4696BAgree'. -/
def lawS4696BAgreeCard : Claim7 := { stood := { row := lawS4696BAgreeRow, standIns := [], harness := (true, "7ad10fda2aaa6642a7f667dc9aca2ee76ecaf64e672836c2a7cc53d32f15bb1c"), looks := true }, told := true, goes := false }
def LawS4696BAgreeToldSaid : Prop := Claim7.holds Ybaf.pinned (.plain (OpenSpec.ofChange lawS4696BAgreeSpec)) lawS4696BAgreeCard
/-- ITS FALSE NEIGHBOUR. Refute it at one input. -/
def LawS4696BAgreeToldWrongFalsely : Prop := Claim7.holds Ybaf.pinned (.plain (OpenSpec.ofChange lawS4696BAgreeWrong)) lawS4696BAgreeCard

/-- THE TOLD CARD OF 'contract.LawS4696CRate'. -/
def lawS4696CRateCard : Claim7 := { stood := { row := lawS4696CRateRow, standIns := [], harness := (true, "7ad10fda2aaa6642a7f667dc9aca2ee76ecaf64e672836c2a7cc53d32f15bb1c"), looks := true }, told := true, goes := false }
def LawS4696CRateToldSaid : Prop := Claim7.holds Ybaf.pinned (.plain (OpenSpec.ofChange lawS4696CRateSpec)) lawS4696CRateCard
/-- ITS FALSE NEIGHBOUR. Refute it at one input. -/
def LawS4696CRateToldWrongFalsely : Prop := Claim7.holds Ybaf.pinned (.plain (OpenSpec.ofChange lawS4696CRateWrong)) lawS4696CRateCard
end Rows
end Go.Proofs.YbulkcsfqFmt
