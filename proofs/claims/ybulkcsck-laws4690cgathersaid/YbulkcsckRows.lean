/-
  No cell of these rows narrows 'for every input' (looked for: loops, veiled, ifaces, maps, wideKeys, modest, calm, conditions, laid).
  DERIVED. THE GIVEN ROWS OF THIS SEAT. 4 by the template 'for every input the law returns true; each argument reads behind the call as it read before'; 0 by the template 'total and deterministic' (their statements: YbulkcsckTotals.lean).
  GIVEN WITH THE SEED: the statements are not yours to turn. If you find one false, say at which input.
  Laid BY PROGRAM, IN A SANDBOX (cutbox-rows.mjs): the forced cells as the released guide's own fill.sh prints them over the translation a889b92eb35a24a0… (all of the seat's roots in one cut). By AI agents, Wed Nov 11 2026. No macro, syntax, notation, axiom, sorry.
-/
import Derived.Test.YbulkcsckChecked
import GoSem.Claim
import GoSem.ClaimJoined
import GoSem.ClaimMapViews
import Derived.JoinedTies
import Derived.KernelRfl
namespace Go.Proofs.Ybulkcsck
/- THE CELL 'sum', in the pinned program and in every row, IS THE sha256 OF THE DUMP (.gsa) THAT YbulkcsckProg.lean LOADS. Nothing in Lean hashes anything: it is a label: what it is worth is what the hold of that sum in a sandbox is worth. -/
noncomputable def Yba.pinned : Pinned := { name := "ybulkcsck", sum := "a889b92eb35a24a01ac37d7a302d4e11d8990c2ed225f70986864dfc9a9604f4", checked := Yba.checked }
namespace Rows
def none {H : Type} : Left H := { results := [], args := [] }

/-- 'protocol.LawS4690AReport': WHATEVER THE INPUT: true; the input reads as it did. -/
def lawS4690AReportSpec : ChangeSpec := { name := "lawS4690AReport", fn := fun _ => fun
  | [d1, d2] => { results := [.lit (.bool true)], args := [d1, d2] }
  | _ => none }
def lawS4690AReportRow : OpenClaim := { program := "ybulkcsck", sum := "a889b92eb35a24a01ac37d7a302d4e11d8990c2ed225f70986864dfc9a9604f4", func := "example.com/quadrille/quadrille/internal/protocol.LawS4690AReport", spec := "lawS4690AReport", plainKeys := false, apart := false }
def LawS4690AReportSaid : Prop := lawS4690AReportRow.holds Yba.pinned (OpenSpec.ofChange lawS4690AReportSpec)

/-- ITS FALSE NEIGHBOUR: 'it returns false'. Refute it at one input. -/
def lawS4690AReportWrong : ChangeSpec := { name := "lawS4690AReport", fn := fun _ => fun
  | [d1, d2] => { results := [.lit (.bool false)], args := [d1, d2] }
  | _ => none }
def LawS4690AReportWrongFalsely : Prop := lawS4690AReportRow.holds Yba.pinned (OpenSpec.ofChange lawS4690AReportWrong)

/-- 'node.LawS4690BCounts': WHATEVER THE INPUT: true; the input reads as it did. -/
def lawS4690BCountsSpec : ChangeSpec := { name := "lawS4690BCounts", fn := fun _ => fun
  | [d] => { results := [.lit (.bool true)], args := [d] }
  | _ => none }
def lawS4690BCountsRow : OpenClaim := { program := "ybulkcsck", sum := "a889b92eb35a24a01ac37d7a302d4e11d8990c2ed225f70986864dfc9a9604f4", func := "example.com/quadrille/quadrille/internal/node.LawS4690BCounts", spec := "lawS4690BCounts", inPlace := ["(*internal/sync.Mutex).Lock", "internal/race.Disable", "sync/atomic.CompareAndSwapInt32", "internal/race.Enable", "internal/race.Acquire", "(*internal/sync.Mutex).lockSlow", "internal/sync.runtime_canSpin", "internal/sync.runtime_doSpin", "internal/sync.throw", "internal/sync.runtime_nanotime", "internal/sync.runtime_SemacquireMutex", "sync/atomic.AddInt32", "(*internal/sync.Mutex).Unlock", "internal/race.ReleaseMerge", "(*internal/sync.Mutex).unlockSlow", "internal/sync.fatal", "internal/sync.runtime_Semrelease"], plainKeys := false, apart := false }
def LawS4690BCountsSaid : Prop := lawS4690BCountsRow.holds Yba.pinned (OpenSpec.ofChange lawS4690BCountsSpec)

/-- ITS FALSE NEIGHBOUR: 'it returns false'. Refute it at one input. -/
def lawS4690BCountsWrong : ChangeSpec := { name := "lawS4690BCounts", fn := fun _ => fun
  | [d] => { results := [.lit (.bool false)], args := [d] }
  | _ => none }
def LawS4690BCountsWrongFalsely : Prop := lawS4690BCountsRow.holds Yba.pinned (OpenSpec.ofChange lawS4690BCountsWrong)

/-- 'node.LawS4690BScript': WHATEVER THE INPUT: true; the input reads as it did. -/
def lawS4690BScriptSpec : ChangeSpec := { name := "lawS4690BScript", fn := fun _ => fun
  | [d1, d2, d3] => { results := [.lit (.bool true)], args := [d1, d2, d3] }
  | _ => none }
def lawS4690BScriptRow : OpenClaim := { program := "ybulkcsck", sum := "a889b92eb35a24a01ac37d7a302d4e11d8990c2ed225f70986864dfc9a9604f4", func := "example.com/quadrille/quadrille/internal/node.LawS4690BScript", spec := "lawS4690BScript", inPlace := ["(*internal/sync.Mutex).Lock", "internal/race.Disable", "sync/atomic.CompareAndSwapInt32", "internal/race.Enable", "internal/race.Acquire", "(*internal/sync.Mutex).lockSlow", "internal/sync.runtime_canSpin", "internal/sync.runtime_doSpin", "internal/sync.throw", "internal/sync.runtime_nanotime", "internal/sync.runtime_SemacquireMutex", "sync/atomic.AddInt32", "(*internal/sync.Mutex).Unlock", "internal/race.ReleaseMerge", "(*internal/sync.Mutex).unlockSlow", "internal/sync.fatal", "internal/sync.runtime_Semrelease"], plainKeys := false, apart := false }
def LawS4690BScriptSaid : Prop := lawS4690BScriptRow.holds Yba.pinned (OpenSpec.ofChange lawS4690BScriptSpec)

/-- ITS FALSE NEIGHBOUR: 'it returns false'. Refute it at one input. -/
def lawS4690BScriptWrong : ChangeSpec := { name := "lawS4690BScript", fn := fun _ => fun
  | [d1, d2, d3] => { results := [.lit (.bool false)], args := [d1, d2, d3] }
  | _ => none }
def LawS4690BScriptWrongFalsely : Prop := lawS4690BScriptRow.holds Yba.pinned (OpenSpec.ofChange lawS4690BScriptWrong)

/-- 'protocol.LawS4690CGather': WHATEVER THE INPUT: true; the input reads as it did. -/
def lawS4690CGatherSpec : ChangeSpec := { name := "lawS4690CGather", fn := fun _ => fun
  | [d1, d2, d3, d4, d5, d6, d7, d8] => { results := [.lit (.bool true)], args := [d1, d2, d3, d4, d5, d6, d7, d8] }
  | _ => none }
def lawS4690CGatherRow : OpenClaim := { program := "ybulkcsck", sum := "a889b92eb35a24a01ac37d7a302d4e11d8990c2ed225f70986864dfc9a9604f4", func := "example.com/quadrille/quadrille/internal/protocol.LawS4690CGather", spec := "lawS4690CGather", unfollowed := true, recurses := true, named := ["encoding/binary.BigEndian"], plainKeys := false, apart := false }
def LawS4690CGatherSaid : Prop := lawS4690CGatherRow.holds Yba.pinned (OpenSpec.ofChange lawS4690CGatherSpec)

/-- ITS FALSE NEIGHBOUR: 'it returns false'. Refute it at one input. -/
def lawS4690CGatherWrong : ChangeSpec := { name := "lawS4690CGather", fn := fun _ => fun
  | [d1, d2, d3, d4, d5, d6, d7, d8] => { results := [.lit (.bool false)], args := [d1, d2, d3, d4, d5, d6, d7, d8] }
  | _ => none }
def LawS4690CGatherWrongFalsely : Prop := lawS4690CGatherRow.holds Yba.pinned (OpenSpec.ofChange lawS4690CGatherWrong)

end Rows
end Go.Proofs.Ybulkcsck
