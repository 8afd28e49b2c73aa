/-
  OWN TEXT. MarginStage.StatedRate at a stage whose span is zero.
-/
import Derived.Test.YbulkcsfqFmtFa
import Derived.Deep.RegionWith
namespace Go.Proofs.YbulkcsfqFmt.Fa
open Go.RowKit Go.Extern.Stop Go.Stop Go.Extern

set_option maxRecDepth 100000 in
set_option maxHeartbeats 1600000 in
theorem stated_some (nm : ByteArray) (b : Nat) (x y : Int) (w : World) (hb : b < w.heap.size) (h0 : w.cell? ⟨b, 0, none⟩ = some (.int .i64 x)) (h1 : w.cell? ⟨b, 1, none⟩ = some (.int .i64 y)) :
    Calls Ybaf.prog 12 #[.agg #[.string nm, .int .i64 0, .int .i64 0, .int .i64 0, .int .i64 0, .int .i64 0, .int .i64 0, .int .i64 0, .int .i64 0, .int .i64 0, .int .i64 0, .nilIface, .int .i64 0, .int .i64 0, .int .i64 0, .int .i64 0, .int .i64 0, .int .i64 0, .int .i64 0, .int .i64 0, .int .i64 0, .int .i64 0, .nilIface, .pointer (some ⟨b, 0, none⟩)]] w fun e w' => e = .returned (.tuple #[.agg #[.int .i64 x, .int .i64 y], .nilIface]) ∧ Below w.heap.size w w' := by
  go_enter Ybaf.func12, Ybaf.ntmps12
  go_wp2
  refine bodyPost_ret (v := .tuple #[.agg #[.int .i64 x, .int .i64 y], .nilIface]) ?_ ?_ ⟨rfl, ?_⟩
  · simp [results, Ybaf.f12]
    go_simp
  · simp
  · exact (((Below.refl _ w).alloc (Nat.le_refl _) _).alloc (by simp) _)

set_option maxRecDepth 100000 in
set_option maxHeartbeats 1600000 in
theorem stated_nil (F : Interp) (nm : ByteArray) (w : World) (hF : F.answers w.tape) :
    Calls Ybaf.prog 12 #[.agg #[.string nm, .int .i64 0, .int .i64 0, .int .i64 0, .int .i64 0, .int .i64 0, .int .i64 0, .int .i64 0, .int .i64 0, .int .i64 0, .int .i64 0, .nilIface, .int .i64 0, .int .i64 0, .int .i64 0, .int .i64 0, .int .i64 0, .int .i64 0, .int .i64 0, .int .i64 0, .int .i64 0, .int .i64 0, .nilIface, .pointer none]] w fun e w' => ∃ a, e = .returned (.tuple #[.agg #[.int .i64 0, .int .i64 0], .iface 48 (.pointer (some a))]) ∧ Below w.heap.size w w' := by
  go_enter Ybaf.func12, Ybaf.ntmps12
  go_wp2
  go_region_with (go_at_call 17; refine (errorf_walk F (w.heap.size + 1 + 1 + 1) nm ⟨#[110, 111, 116, 32, 105, 110, 32, 116, 104, 101, 32, 114, 117, 108, 101, 98, 111, 111, 107]⟩ _ ?_ ?_ ?_).mono ?_; (exact hF); (exact (by go_simp)); (exact (by go_simp)); rintro e w5 ⟨T5, rfl, rfl⟩)
  all_goals
    go_wp2
    refine bodyPost_ret (v := .tuple #[.agg #[.int .i64 0, .int .i64 0], .iface 48 (.pointer (some ⟨w.heap.size + 1 + 1 + 1 + 1, 0, none⟩))]) ?_ ?_ ⟨_, rfl, ?_⟩
    · simp [results, Ybaf.f12]
      go_simp
    · rfl
    · exact ((((((((Below.refl _ w).alloc (Nat.le_refl _) _).alloc (by simp) _).alloc (by simp; omega) _).alloc (by simp; omega) _).alloc (by simp; omega) _).drew).drew)
end Go.Proofs.YbulkcsfqFmt.Fa
