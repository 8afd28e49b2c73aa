/-
  OWN TEXT. errors.New, the day's making, unplaced, After, OnOrAfter.
-/
import Derived.Test.YbulkcsfqFmtGa
namespace Go.Proofs.YbulkcsfqFmt.Fa
open Go.RowKit Go.Extern.Stop Go.Stop Go.Extern

-- "cannot place %w"
@[go_sem] theorem fmt1 : FmtStop.printed? ⟨#[99, 97, 110, 110, 111, 116, 32, 112, 108, 97, 99, 101, 32, 37, 119]⟩ 1 = some [(0, 119, false)] := by kernel_rfl
@[go_sem] theorem fmt1r (w : World) : (FmtDoors.printed ⟨#[99, 97, 110, 110, 111, 116, 32, 112, 108, 97, 99, 101, 32, 37, 119]⟩ 1).run Ybaf.prog w = .ok [(0, 119, false)] w := by kernel_rfl
@[go_sem] theorem ptr73 (w : World) : (FmtStop.ptrTo "fmt.wrapError").run Ybaf.prog w = .ok 73 w := by kernel_rfl
@[go_sem] theorem elem73 (w : World) : (elemOf 73).run Ybaf.prog w = .ok 103 w := by kernel_rfl
def plain48 : List UInt8 := 14 :: FmtStop.pack "*errors.errorString".toUTF8.data.toList
theorem op48w (name : String) (a : Addr) (s : ByteArray) (w : World) (hc : w.cell? a = some (.string s)) :
    (FmtStop.operand name true 119 false (.iface 48 (.pointer (some a)))).run Ybaf.prog w = .ok (plain48, s.data.toList) w := by
  have h1 : (typeStr 48).run Ybaf.prog w = .ok "*errors.errorString" w := by kernel_rfl
  have d2 : Ybaf.t48.desc = .pointer 50 := rfl
  have d3 : Ybaf.t50.desc = .named "errors.errorString" 49 := rfl
  simp [FmtStop.operand, h1, d2, d3, run_load, hc, plain48]

@[go_sem] theorem op_nil (name : String) (w : World) : (FmtStop.operand name true 119 false .nilIface).run Ybaf.prog w = .ok ([0], []) w := by kernel_rfl

/-- a day's error: none, or one of errors.New's make -/
inductive ErrV (w : World) : Value → Prop
  | nil : ErrV w .nilIface
  | some (b : Nat) (s : ByteArray) (h : w.cell? ⟨b, 0, none⟩ = Option.some (.string s)) (hb : b < w.heap.size) : ErrV w (.iface 48 (.pointer (Option.some ⟨b, 0, none⟩)))

theorem new_any (s : ByteArray) (w : World) :
    Calls Ybaf.prog 6 #[.string s] w fun e w' => e = .returned (.iface 48 (.pointer (some ⟨w.heap.size, 0, none⟩))) ∧ w' = w.alloc (.cells #[.string s] 50) := by
  go_enter Ybaf.func6, Ybaf.ntmps6
  go_wp2
  go_ret
  exact ⟨rfl, rfl⟩

set_option maxRecDepth 100000 in
set_option maxHeartbeats 800000 in
/-- fmt.Errorf("cannot place %w", err) -/
theorem place_walk (F : Interp) (b : Nat) (v : Value) (w : World) (hF : F.answers w.tape) (h0 : w.cell? ⟨b, 0, none⟩ = some v) (hv : ErrV w v) :
    Calls Ybaf.prog 17 #[.string ⟨#[99, 97, 110, 110, 111, 116, 32, 112, 108, 97, 99, 101, 32, 37, 119]⟩, .slice (some ⟨b, 0, none⟩) 1 1] w
      fun e w' => ∃ T : ByteArray, e = .returned (.iface 73 (.pointer (some ⟨w.heap.size, 0, none⟩))) ∧ w' = (w.alloc (.cells #[.string T, v] 103)).drew := by
  have hF' := answers_open hF
  cases hv with
  | nil =>
    go_enter Ybaf.func17, Ybaf.ntmps17
    go_wp2
    go_ret
    exact ⟨_, rfl, rfl⟩
  | some b' s h hb =>
    have ho := op48w "fmt.errorf" _ s w h
    go_enter Ybaf.func17, Ybaf.ntmps17
    go_wp2
    go_ret
    exact ⟨_, rfl, rfl⟩
end Go.Proofs.YbulkcsfqFmt.Fa
