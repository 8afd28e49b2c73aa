/-
  No cell of these rows narrows 'for every input' (looked for: loops, veiled, ifaces, maps, wideKeys, modest, calm, conditions, laid).
  DERIVED. THE GIVEN ROWS OF THIS SEAT. 2 by the template 'for every input the law returns true; each argument reads behind the call as it read before'; 0 by the template 'total and deterministic' (their statements: YbulkcsgeTotals.lean).
  GIVEN WITH THE SEED: the statements are not yours to turn. If you find one false, say at which input.
  Laid BY PROGRAM, IN A SANDBOX (cutbox-rows.mjs): the forced cells as the released guide's own fill.sh prints them over the translation 05b453b31219c58e… (all of the seat's roots in one cut). By AI agents, Wed Nov 11 2026. No macro, syntax, notation, axiom, sorry.
-/
import Derived.Test.YbulkcsgeChecked
import GoSem.Claim
import GoSem.ClaimJoined
import GoSem.ClaimMapViews
import Derived.JoinedTies
import Derived.KernelRfl
namespace Go.Proofs.Ybulkcsge
/- THE CELL 'sum', in the pinned program and in every row, IS THE sha256 OF THE DUMP (.gsa) THAT YbulkcsgeProg.lean LOADS. Nothing in Lean hashes anything: it is a label: what it is worth is what the hold of that sum in a sandbox is worth. -/
noncomputable def Yba.pinned : Pinned := { name := "ybulkcsge", sum := "05b453b31219c58ed7cd50475d11a2845712be8f9c3375fd088748038487d592", checked := Yba.checked }
namespace Rows
def none {H : Type} : Left H := { results := [], args := [] }

/-- 'bundle.LawS4697BModel': WHATEVER THE INPUT: true; the input reads as it did. -/
def lawS4697BModelSpec : ChangeSpec := { name := "lawS4697BModel", fn := fun _ => fun
  | [d1, d2, d3, d4, d5, d6, d7, d8] => { results := [.lit (.bool true)], args := [d1, d2, d3, d4, d5, d6, d7, d8] }
  | _ => none }
def lawS4697BModelRow : OpenClaim := { program := "ybulkcsge", sum := "05b453b31219c58ed7cd50475d11a2845712be8f9c3375fd088748038487d592", func := "example.com/hookwright/hookwright/internal/bundle.LawS4697BModel", spec := "lawS4697BModel", unfollowed := true, recurses := true, apart := false }
def LawS4697BModelSaid : Prop := lawS4697BModelRow.holds Yba.pinned (OpenSpec.ofChange lawS4697BModelSpec)

/-- ITS FALSE NEIGHBOUR: 'it returns false'. Refute it at one input. -/
def lawS4697BModelWrong : ChangeSpec := { name := "lawS4697BModel", fn := fun _ => fun
  | [d1, d2, d3, d4, d5, d6, d7, d8] => { results := [.lit (.bool false)], args := [d1, d2, d3, d4, d5, d6, d7, d8] }
  | _ => none }
def LawS4697BModelWrongFalsely : Prop := lawS4697BModelRow.holds Yba.pinned (OpenSpec.ofChange lawS4697BModelWrong)

/-- 'bundle.LawS4697BCopyAndChange': WHATEVER THE INPUT: true; the input reads as it did. -/
def lawS4697BCopyAndChangeSpec : ChangeSpec := { name := "lawS4697BCopyAndChange", fn := fun _ => fun
  | [d1, d2, d3, d4, d5, d6] => { results := [.lit (.bool true)], args := [d1, d2, d3, d4, d5, d6] }
  | _ => none }
def lawS4697BCopyAndChangeRow : OpenClaim := { program := "ybulkcsge", sum := "05b453b31219c58ed7cd50475d11a2845712be8f9c3375fd088748038487d592", func := "example.com/hookwright/hookwright/internal/bundle.LawS4697BCopyAndChange", spec := "lawS4697BCopyAndChange", unfollowed := true, recurses := true, apart := false }
def LawS4697BCopyAndChangeSaid : Prop := lawS4697BCopyAndChangeRow.holds Yba.pinned (OpenSpec.ofChange lawS4697BCopyAndChangeSpec)

/-- ITS FALSE NEIGHBOUR: 'it returns false'. Refute it at one input. -/
def lawS4697BCopyAndChangeWrong : ChangeSpec := { name := "lawS4697BCopyAndChange", fn := fun _ => fun
  | [d1, d2, d3, d4, d5, d6] => { results := [.lit (.bool false)], args := [d1, d2, d3, d4, d5, d6] }
  | _ => none }
def LawS4697BCopyAndChangeWrongFalsely : Prop := lawS4697BCopyAndChangeRow.holds Yba.pinned (OpenSpec.ofChange lawS4697BCopyAndChangeWrong)

end Rows
end Go.Proofs.Ybulkcsge
