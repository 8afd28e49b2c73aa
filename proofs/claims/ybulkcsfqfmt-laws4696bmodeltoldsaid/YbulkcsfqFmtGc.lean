/-
  OWN TEXT. The day's making, unplaced, After, OnOrAfter.
-/
import Derived.Test.YbulkcsfqFmtGb
import Derived.Deep.Cut
import Derived.Deep.MidRow
namespace Go.Proofs.YbulkcsfqFmt.Fa
open Go.RowKit Go.Extern.Stop Go.Stop Go.Extern

set_option maxRecDepth 100000 in
set_option maxHeartbeats 800000 in
theorem day_any (a b c d e f : Int) (he : Bool) (z : Addr) (w : World) :
    Calls Ybaf.prog 7 #[.int .i64 a, .int .i64 b, .int .i64 c, .int .i64 d, .int .i64 e, .int .i64 f, .bool he, .iface 48 (.pointer (some z))] w
      fun x w' => x = .returned (.agg #[.int .i64 0, .int .i64 0, .int .i64 0, .int .i64 0, .int .i64 a, .int .i64 b, .int .i64 c, .int .i64 d, .int .i64 e, .int .i64 f, if he then .iface 48 (.pointer (some z)) else .nilIface]) ∧ Below w.heap.size w w' := by
  cases he
  · go_enter Ybaf.func7, Ybaf.ntmps7
    go_wp2
    refine bodyPost_ret (v := .agg #[.int .i64 0, .int .i64 0, .int .i64 0, .int .i64 0, .int .i64 a, .int .i64 b, .int .i64 c, .int .i64 d, .int .i64 e, .int .i64 f, .nilIface]) ?_ ?_ ⟨rfl, ?_⟩
    · simp [results, Ybaf.f7]
      go_simp
    · rfl
    · exact (Below.refl _ w).alloc (Nat.le_refl _) _
  · go_enter Ybaf.func7, Ybaf.ntmps7
    go_wp2
    refine bodyPost_ret (v := .agg #[.int .i64 0, .int .i64 0, .int .i64 0, .int .i64 0, .int .i64 a, .int .i64 b, .int .i64 c, .int .i64 d, .int .i64 e, .int .i64 f, .iface 48 (.pointer (some z))]) ?_ ?_ ⟨rfl, ?_⟩
    · simp [results, Ybaf.f7]
      go_simp
    · rfl
    · exact (Below.refl _ w).alloc (Nat.le_refl _) _

/-- a wrapping error that holds v -/
def Wraps (w w' : World) (v : Value) (x : Value) : Prop := ∃ a, x = .iface 73 (.pointer (some ⟨a, 0, none⟩)) ∧ w.heap.size ≤ a ∧ a < w'.heap.size ∧ w'.cell? ⟨a, 1, none⟩ = some v

theorem ErrV.below {w w' : World} {v : Value} (h : ErrV w v) (hb : Below w.heap.size w w') : ErrV w' v := by
  cases h with
  | nil => exact .nil
  | some b s h h' => exact .some b s ((hb.cell (p := ⟨b, 0, none⟩) h').trans h) (Nat.lt_of_lt_of_le h' hb.size)

set_option maxRecDepth 100000 in
set_option maxHeartbeats 800000 in
theorem unplaced_any (F : Interp) (a b c d e f : Int) (v : Value) (w : World) (hF : F.answers w.tape) (hv : ErrV w v) :
    Calls Ybaf.prog 14 #[.agg #[.int .i64 0, .int .i64 0, .int .i64 0, .int .i64 0, .int .i64 a, .int .i64 b, .int .i64 c, .int .i64 d, .int .i64 e, .int .i64 f, v]] w
      fun x w' => ∃ r, x = .returned r ∧ Wraps w w' v r ∧ Below w.heap.size w w' := by
  have hv' : Hd (∀ A B, ErrV ((w.alloc A).alloc B) v) := fun A B => hv.below (((Below.refl _ w).alloc (Nat.le_refl _) _).alloc (by simp) _)
  have key : ∀ w5 : World, (∃ T : ByteArray, w5 = (((w.alloc (.cells #[.int .i64 0, .int .i64 0, .int .i64 0, .int .i64 0, .int .i64 a, .int .i64 b, .int .i64 c, .int .i64 d, .int .i64 e, .int .i64 f, v] 31)).alloc (.cells #[v] 20)).alloc (.cells #[.string T, v] 103)).drew) → Wraps w w5 v (.iface 73 (.pointer (some ⟨w.heap.size + 1 + 1, 0, none⟩))) ∧ Below w.heap.size w w5 := by
    rintro w5 ⟨T, rfl⟩
    exact ⟨⟨w.heap.size + 2, rfl, by omega, by simp, by go_simp⟩, ((((Below.refl _ w).alloc (Nat.le_refl _) _).alloc (by simp) _).alloc (by simp; omega) _).drew⟩
  have key : Hd _ := key
  cases hv with
  | nil =>
    go_enter Ybaf.func14, Ybaf.ntmps14
    go_wp2_with (go_at_call 17; refine (place_walk F (w.heap.size + 1) .nilIface _ ?_ ?_ ?_).mono ?_; (exact hF); (exact (by go_simp)); (exact hv'.out _ _); rintro x w5 ⟨T, rfl, rfl⟩)
    go_ret
    exact ⟨_, rfl, key.out _ ⟨_, rfl⟩⟩
  | some k s h hb =>
    go_enter Ybaf.func14, Ybaf.ntmps14
    go_wp2_with (go_at_call 17; refine (place_walk F (w.heap.size + 1) (.iface 48 (.pointer (some ⟨k, 0, none⟩))) _ ?_ ?_ ?_).mono ?_; (exact hF); (exact (by go_simp)); (exact hv'.out _ _); rintro x w5 ⟨T, rfl, rfl⟩)
    go_ret
    exact ⟨_, rfl, key.out _ ⟨_, rfl⟩⟩

end Go.Proofs.YbulkcsfqFmt.Fa
