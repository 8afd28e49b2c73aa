/-
  OWN TEXT. Closed facts for a walk over fmt.errorf (a plain stop) in this dump, after the worked CheckFmt; fmt.Errorf's contract at the format of StatedRate.
-/
import Derived.Test.YbulkcsfqFmtCards
import Derived.Stop.CallBack
import Derived.Stop.IfaceNil
import Derived.WalkKit
import Derived.WalkSpells
import Derived.Below
import GoSem.ClaimData
namespace Go.Proofs.YbulkcsfqFmt.Fa
open Go.RowKit Go.Extern.Stop Go.Stop Go.Extern

@[go_sem] theorem call21 (args : Array Value) (w : World) : (callFunc 21 args).run Ybaf.prog w = ((FmtStop.errorf #[9, 72] #[23] args).run Ybaf.prog w).andThen fun v w' => .ok (.value v) w' :=
  run_callFunc_extern Ybaf.func21 (by kernel_rfl) (by kernel_rfl) (by kernel_rfl) (by kernel_rfl) args w
@[go_sem] theorem guard (name : String) (w : World) : (FmtStop.guard name).run Ybaf.prog w = .ok () w := by kernel_rfl
-- "the margin of its %s stage is %s"
@[go_sem] theorem fmt0 : FmtStop.printed? ⟨#[116, 104, 101, 32, 109, 97, 114, 103, 105, 110, 32, 111, 102, 32, 105, 116, 115, 32, 37, 115, 32, 115, 116, 97, 103, 101, 32, 105, 115, 32, 37, 115]⟩ 2 = some [(0, 115, false), (1, 115, false)] := by kernel_rfl
@[go_sem] theorem fmt0r (w : World) : (FmtDoors.printed ⟨#[116, 104, 101, 32, 109, 97, 114, 103, 105, 110, 32, 111, 102, 32, 105, 116, 115, 32, 37, 115, 32, 115, 116, 97, 103, 101, 32, 105, 115, 32, 37, 115]⟩ 2).run Ybaf.prog w = .ok [(0, 115, false), (1, 115, false)] w := by kernel_rfl
def shape9 : List UInt8 := [12, 6, 0, 0, 0, 0, 0, 0, 0, 115, 116, 114, 105, 110, 103]
@[go_sem] theorem op9_115 (name : String) (x : ByteArray) (w : World) : (FmtStop.operand name false 115 false (.iface 9 (.string x))).run Ybaf.prog w = .ok (shape9, FmtStop.pack x.data.toList) w := by kernel_rfl
@[go_sem] theorem op9_115w (name : String) (x : ByteArray) (w : World) : (FmtStop.operand name true 115 false (.iface 9 (.string x))).run Ybaf.prog w = .ok (shape9, FmtStop.pack x.data.toList) w := by kernel_rfl
@[go_sem] theorem strict9 (name : String) (x : ByteArray) (w : World) : (FmtStop.strict name (.iface 9 (.string x))).run Ybaf.prog w = .ok (shape9, FmtStop.pack x.data.toList) w := by kernel_rfl
@[go_sem] theorem ptr48 (w : World) : (FmtStop.ptrTo "errors.errorString").run Ybaf.prog w = .ok 48 w := by kernel_rfl
@[go_sem] theorem elem48 (w : World) : (elemOf 48).run Ybaf.prog w = .ok 50 w := by kernel_rfl
@[go_sem] theorem isError48 (w : World) : (FmtDoors.textMethod 48 "Error").run Ybaf.prog w = .ok true w := by kernel_rfl

set_option maxRecDepth 100000 in
set_option maxHeartbeats 800000 in
/-- fmt.Errorf at that format and two strings: some error, not nil. -/
theorem errorf_walk (F : Interp) (b : Nat) (s t : ByteArray) (w : World) (hF : F.answers w.tape) (h0 : w.cell? ⟨b, 0, none⟩ = some (.iface 9 (.string s))) (h1 : w.cell? ⟨b, 1, none⟩ = some (.iface 9 (.string t))) :
    Calls Ybaf.prog 17 #[.string ⟨#[116, 104, 101, 32, 109, 97, 114, 103, 105, 110, 32, 111, 102, 32, 105, 116, 115, 32, 37, 115, 32, 115, 116, 97, 103, 101, 32, 105, 115, 32, 37, 115]⟩, .slice (some ⟨b, 0, none⟩) 2 2] w
      fun e w' => ∃ T : ByteArray, e = .returned (.iface 48 (.pointer (some ⟨w.heap.size, 0, none⟩))) ∧ w' = (w.alloc (.cells #[.string T] 50)).drew := by
  have hF' := answers_open hF
  go_enter Ybaf.func17, Ybaf.ntmps17
  go_wp2
  go_ret
  exact ⟨_, rfl, rfl⟩
end Go.Proofs.YbulkcsfqFmt.Fa
