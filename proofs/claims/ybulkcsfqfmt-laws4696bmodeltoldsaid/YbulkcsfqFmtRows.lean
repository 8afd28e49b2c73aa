/-
  No cell of these rows narrows 'for every input' (looked for: loops, veiled, ifaces, maps, wideKeys, modest, calm, conditions, laid).
  DERIVED. THE GIVEN ROWS OF THIS SEAT. 3 by the template 'for every input the law returns true; each argument reads behind the call as it read before'; 0 by the template 'total and deterministic' (their statements: YbulkcsfqFmtTotals.lean).
  GIVEN WITH THE SEED: the statements are not yours to turn. If you find one false, say at which input.
  Laid BY PROGRAM, IN A SANDBOX (cutbox-rows.mjs): the forced cells as the released guide's own fill.sh prints them over the translation 90615a28ea9fbd2d… (all of the seat's roots in one cut). By AI agents, Wed Nov 11 2026. No macro, syntax, notation, axiom, sorry.
-/
import Derived.Test.YbulkcsfqFmtChecked
import GoSem.Claim
import GoSem.ClaimJoined
import GoSem.ClaimMapViews
import Derived.JoinedTies
import Derived.KernelRfl
namespace Go.Proofs.YbulkcsfqFmt
/- THE CELL 'sum', in the pinned program and in every row, IS THE sha256 OF THE DUMP (.gsa) THAT YbulkcsfqFmtProg.lean LOADS. Nothing in Lean hashes anything: it is a label: what it is worth is what the hold of that sum in a sandbox is worth. -/
noncomputable def Ybaf.pinned : Pinned := { name := "ybulkcsfqfmt", sum := "90615a28ea9fbd2d4203bfdf4040bc6ab58615cb012a5086cfcff52375999c5e", checked := Ybaf.checked }
namespace Rows
def none {H : Type} : Left H := { results := [], args := [] }

/-- 'contract.LawS4696BModel': WHATEVER THE INPUT: true; the input reads as it did. -/
def lawS4696BModelSpec : ChangeSpec := { name := "lawS4696BModel", fn := fun _ => fun
  | [d1, d2, d3, d4, d5, d6, d7, d8, d9, d10] => { results := [.lit (.bool true)], args := [d1, d2, d3, d4, d5, d6, d7, d8, d9, d10] }
  | _ => none }
def lawS4696BModelRow : OpenClaim := { program := "ybulkcsfqfmt", sum := "90615a28ea9fbd2d4203bfdf4040bc6ab58615cb012a5086cfcff52375999c5e", func := "example.com/floorcode/floorcode/contract.LawS4696BModel", spec := "lawS4696BModel", stops := ["fmt.errorf"], inPlace := ["fmt.errorf", "internal/reflectlite.TypeOf"], unfollowed := true, recurses := true, apart := false }
/-- NO THEOREM (fmt's text is open here; it may be false): for the released tool's asking of the row's closed facts alone. THE STATEMENT IS 'LawS4696BModelToldSaid' (YbulkcsfqFmtCards.lean). -/
def LawS4696BModelFormAsk : Prop := lawS4696BModelRow.holds Ybaf.pinned (OpenSpec.ofChange lawS4696BModelSpec)

/-- ITS FALSE NEIGHBOUR: 'it returns false'. Refute it at one input. -/
def lawS4696BModelWrong : ChangeSpec := { name := "lawS4696BModel", fn := fun _ => fun
  | [d1, d2, d3, d4, d5, d6, d7, d8, d9, d10] => { results := [.lit (.bool false)], args := [d1, d2, d3, d4, d5, d6, d7, d8, d9, d10] }
  | _ => none }
def LawS4696BModelWrongFormAsk : Prop := lawS4696BModelRow.holds Ybaf.pinned (OpenSpec.ofChange lawS4696BModelWrong)

/-- 'contract.LawS4696BAgree': WHATEVER THE INPUT: true; the input reads as it did. -/
def lawS4696BAgreeSpec : ChangeSpec := { name := "lawS4696BAgree", fn := fun _ => fun
  | [d1, d2, d3, d4, d5, d6, d7, d8, d9, d10] => { results := [.lit (.bool true)], args := [d1, d2, d3, d4, d5, d6, d7, d8, d9, d10] }
  | _ => none }
def lawS4696BAgreeRow : OpenClaim := { program := "ybulkcsfqfmt", sum := "90615a28ea9fbd2d4203bfdf4040bc6ab58615cb012a5086cfcff52375999c5e", func := "example.com/floorcode/floorcode/contract.LawS4696BAgree", spec := "lawS4696BAgree", stops := ["fmt.errorf"], inPlace := ["fmt.errorf"], apart := false }
/-- NO THEOREM (fmt's text is open here; it may be false): for the released tool's asking of the row's closed facts alone. THE STATEMENT IS 'LawS4696BAgreeToldSaid' (YbulkcsfqFmtCards.lean). -/
def LawS4696BAgreeFormAsk : Prop := lawS4696BAgreeRow.holds Ybaf.pinned (OpenSpec.ofChange lawS4696BAgreeSpec)

/-- ITS FALSE NEIGHBOUR: 'it returns false'. Refute it at one input. -/
def lawS4696BAgreeWrong : ChangeSpec := { name := "lawS4696BAgree", fn := fun _ => fun
  | [d1, d2, d3, d4, d5, d6, d7, d8, d9, d10] => { results := [.lit (.bool false)], args := [d1, d2, d3, d4, d5, d6, d7, d8, d9, d10] }
  | _ => none }
def LawS4696BAgreeWrongFormAsk : Prop := lawS4696BAgreeRow.holds Ybaf.pinned (OpenSpec.ofChange lawS4696BAgreeWrong)

/-- 'contract.LawS4696CRate': WHATEVER THE INPUT: true; the input reads as it did. -/
def lawS4696CRateSpec : ChangeSpec := { name := "lawS4696CRate", fn := fun _ => fun
  | [d1, d2] => { results := [.lit (.bool true)], args := [d1, d2] }
  | _ => none }
def lawS4696CRateRow : OpenClaim := { program := "ybulkcsfqfmt", sum := "90615a28ea9fbd2d4203bfdf4040bc6ab58615cb012a5086cfcff52375999c5e", func := "example.com/floorcode/floorcode/contract.LawS4696CRate", spec := "lawS4696CRate", stops := ["fmt.errorf"], inPlace := ["fmt.errorf"], apart := false }
/-- NO THEOREM (fmt's text is open here; it may be false): for the released tool's asking of the row's closed facts alone. THE STATEMENT IS 'LawS4696CRateToldSaid' (YbulkcsfqFmtCards.lean). -/
def LawS4696CRateFormAsk : Prop := lawS4696CRateRow.holds Ybaf.pinned (OpenSpec.ofChange lawS4696CRateSpec)

/-- ITS FALSE NEIGHBOUR: 'it returns false'. Refute it at one input. -/
def lawS4696CRateWrong : ChangeSpec := { name := "lawS4696CRate", fn := fun _ => fun
  | [d1, d2] => { results := [.lit (.bool false)], args := [d1, d2] }
  | _ => none }
def LawS4696CRateWrongFormAsk : Prop := lawS4696CRateRow.holds Ybaf.pinned (OpenSpec.ofChange lawS4696CRateWrong)

end Rows
end Go.Proofs.YbulkcsfqFmt
