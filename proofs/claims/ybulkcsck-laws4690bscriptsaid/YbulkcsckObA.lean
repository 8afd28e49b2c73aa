/-
  OWN TEXT. The outbox (internal/node): the numbers of sync.Mutex in this dump; newOutbox, len, signal.
-/
import Derived.Test.YbulkcsckRows
import Derived.Conc.MuLone
import Derived.Conc.LoneSelect
import Derived.WalkKit
import Derived.Below
import Derived.KernelRfl
namespace Go.Proofs.Ybulkcsck.Ob
open Go.RowKit Go.MuLone Go.Conc

abbrev link : Go.Conc.Locks.MuLink := { lock := 20, unlock := 21, ilock := 34, iunlock := 35, lockSlow := 43, unlockSlow := 46, disable := 39, enable := 41, acquire := 42, relMerge := 44, cas32 := 40, add32 := 45, tMutex := 84, tIMutex := 82, tPMutex := 140, tPIMutex := 146, tPI32 := 148, tUP := 150, tNoCopy := 80, tU32 := 25 }
theorem lib : Go.Conc.Locks.MuLib Yba.prog link :=
  ⟨Yba.func20, Yba.func21, Yba.func34, Yba.func35, Yba.func39, Yba.func41, Yba.func42, Yba.func44, Yba.func40, Yba.func45, Yba.underlying82, Yba.runUnderlying82, Yba.sizeOf82, Yba.isAgg82, Yba.zeroValue82, Yba.underlying84, Yba.runUnderlying84, Yba.sizeOf84, Yba.isAgg84, Yba.zeroValue84, Yba.underlying140, Yba.runUnderlying140, Yba.sizeOf140, Yba.isAgg140, Yba.zeroValue140, Yba.underlying146, Yba.runUnderlying146, Yba.sizeOf146, Yba.isAgg146, Yba.zeroValue146, Yba.underlying148, Yba.runUnderlying148, Yba.sizeOf148, Yba.isAgg148, Yba.zeroValue148, Yba.underlying150, Yba.runUnderlying150, Yba.sizeOf150, Yba.isAgg150, Yba.zeroValue150, Yba.underlying80, Yba.runUnderlying80, Yba.sizeOf80, Yba.isAgg80, Yba.zeroValue80, Yba.underlying21, Yba.runUnderlying21, Yba.sizeOf21, Yba.isAgg21, Yba.zeroValue21, (by kernel_rfl)⟩

/-- Block b is an outbox: its seven cells. -/
def Box (w : World) (b : Nat) (mf mb s : Int) (fr : Value) (n : Int) (c : Nat) : Prop :=
  w.heap[b]? = some (.cells #[.int .i64 mf, .int .i64 mb, .int .i32 s, .int .u32 0, fr, .int .i64 n, .chan (some c)] 87 (0, 0))

section
variable {w : World} {b : Nat} {mf mb s : Int} {fr : Value} {n : Int} {c : Nat}
theorem Box.c0 (h : Box w b mf mb s fr n c) : w.cell? ⟨b, 0, none⟩ = some (.int .i64 mf) := by unfold Box at h; simp [World.cell?, h]
theorem Box.c1 (h : Box w b mf mb s fr n c) : w.cell? ⟨b, 1, none⟩ = some (.int .i64 mb) := by unfold Box at h; simp [World.cell?, h]
theorem Box.c2 (h : Box w b mf mb s fr n c) : w.cell? ⟨b, 2, none⟩ = some (.int .i32 s) := by unfold Box at h; simp [World.cell?, h]
theorem Box.c4 (h : Box w b mf mb s fr n c) : w.cell? ⟨b, 4, none⟩ = some fr := by unfold Box at h; simp [World.cell?, h]
theorem Box.c5 (h : Box w b mf mb s fr n c) : w.cell? ⟨b, 5, none⟩ = some (.int .i64 n) := by unfold Box at h; simp [World.cell?, h]
theorem Box.c6 (h : Box w b mf mb s fr n c) : w.cell? ⟨b, 6, none⟩ = some (.chan (some c)) := by unfold Box at h; simp [World.cell?, h]
theorem Box.fz (h : Box w b mf mb s fr n c) (i : Nat) : w.frozen? ⟨b, i, none⟩ = false := by unfold Box at h; simp [World.frozen?, h]
theorem Box.lt (h : Box w b mf mb s fr n c) : b < w.heap.size := by
  unfold Box at h
  exact (Array.getElem?_eq_some_iff.1 h).1
theorem Box.set2 (h : Box w b mf mb s fr n c) (s' : Int) : Box (w.setCell ⟨b, 2, none⟩ (.int .i32 s')) b mf mb s' fr n c := by
  unfold Box at h ⊢; simp [World.setCell, Array.getElem?_modify, h]
theorem Box.set4 (h : Box w b mf mb s fr n c) (fr' : Value) : Box (w.setCell ⟨b, 4, none⟩ fr') b mf mb s fr' n c := by
  unfold Box at h ⊢; simp [World.setCell, Array.getElem?_modify, h]
theorem Box.set5 (h : Box w b mf mb s fr n c) (n' : Int) : Box (w.setCell ⟨b, 5, none⟩ (.int .i64 n')) b mf mb s fr n' c := by
  unfold Box at h ⊢; simp [World.setCell, Array.getElem?_modify, h]
theorem Box.apart (h : Box w b mf mb s fr n c) {a : Addr} (ha : a.block ≠ b) (v : Value) : Box (w.setCell a v) b mf mb s fr n c := by
  unfold Box at h ⊢; rw [Below.heap_setCell _ _ _ _ (Ne.symm ha)]; exact h
theorem Box.alloc (h : Box w b mf mb s fr n c) (o : Obj) : Box (w.alloc o) b mf mb s fr n c := by
  have := h.lt
  unfold Box at h ⊢; rw [Below.heap_alloc _ _ _ this]; exact h
theorem Box.below {B : Nat} {w' : World} (h : Box w b mf mb s fr n c) (hb : Below B w w') (hB : b < B) : Box w' b mf mb s fr n c := by
  unfold Box at h ⊢; rw [hb.block b hB]; exact h
/-- A lock taken and given back: the world as it was. -/
theorem Box.back (h : Box w b mf mb s fr n c) (v : Value) : (w.setCell ⟨b, 2, none⟩ v).setCell ⟨b, 2, none⟩ (.int .i32 s) = w := by
  have hlt := h.lt
  unfold Box at h
  cases w with
  | mk heap tape drawn os output =>
    simp only [World.setCell]
    congr 1
    apply Array.ext_getElem?
    intro i
    simp only [Array.getElem?_modify]
    by_cases hi : b = i
    · subst hi
      simp only at h
      simp [h]
    · simp [hi]
end

theorem bytes79 : ∃ i, Yba.prog.info? 79 = some i ∧ i.bytes = 0 := by
  have h : (Yba.prog.info? 79).map (·.bytes) = some 0 := by kernel_rfl
  obtain ⟨i, hi, hb⟩ := Option.map_eq_some_iff.1 h
  exact ⟨i, hi, hb⟩
theorem mk1 (w : World) : (Instr.makeChan 85 (.int .i64 1)).run Yba.prog w = .ok (.chan (some w.heap.size)) (w.alloc (.chan 1 #[] false 0 0 false)) := by
  obtain ⟨i, hi, hb⟩ := bytes79
  simpa using run_makeChan (P := Yba.prog) (w := w) Yba.underlying85 hi .i64 1 (by omega) (by rw [hb]; omega)

set_option maxHeartbeats 800000 in
theorem len_walk (b : Nat) (mf mb n : Int) (fr : Option Addr) (l k : Nat) (c : Nat) (w : World) (h : Box w b mf mb 0 (.slice fr l k) n c) :
    Calls Yba.prog 11 #[.pointer (some ⟨b, 0, none⟩)] w fun e w' => e = .returned (.int .i64 l) ∧ w' = w := by
  have h1 := h.c2
  have f1 := h.fz 2
  have h2 := h.c4
  have HH : Hid (Box w b mf mb 0 (.slice fr l k) n c) := h
  clear h
  go_enter_defers Yba.func11, Yba.ntmps11
  go_wp2_with (go_at_call 20; refine (lock_free lib ⟨b, 2, none⟩ _ h1 f1).mono ?_; rintro e w' ⟨rfl, rfl⟩)
  refine leaves_cons (f := 21) (args := #[.pointer (some ⟨b, 2, none⟩)]) (by simp) (by simp [go_sem]) ?_
  have hB := HH.out.set2 1
  refine (unlock_deferred lib ⟨b, 2, none⟩ .returning _ hB.c2 (hB.fz 2)).mono ?_
  rintro e u' w'' ⟨rfl, rfl, rfl⟩
  exact ⟨_, results_tmp rfl _ _ _, rfl, HH.out.back _⟩

set_option maxHeartbeats 800000 in
theorem new_walk (mf mb : Int) (w : World) :
    Calls Yba.prog 10 #[.int .i64 mf, .int .i64 mb] w fun e w' => e = .returned (.pointer (some ⟨w.heap.size + 1, 0, none⟩)) ∧
      Box w' (w.heap.size + 1) mf mb 0 (.slice none 0 0) 0 w.heap.size ∧ w'.heap[w.heap.size]? = some (.chan 1 #[] false 0 0 false) ∧ w'.heap.size = w.heap.size + 2 ∧ Below w.heap.size w w' := by
  have hmc := mk1
  go_enter Yba.func10, Yba.ntmps10
  go_wp2
  go_ret
  refine ⟨rfl, ?_, ?_, by simp, ?_⟩
  · unfold Box
    have := heap_alloc_new (w.alloc (.chan 1 #[] false 0 0 false)) (Obj.cells #[.int .i64 mf, .int .i64 mb, .int .i32 0, .int .u32 0, .slice none 0 0, .int .i64 0, .chan (some w.heap.size)] 87)
    simpa only [World.size_alloc] using this
  · rw [Below.heap_alloc _ _ _ (by simp)]
    exact heap_alloc_new w _
  · exact ((Below.refl _ w).alloc (Nat.le_refl _) _).alloc (by simp) _

set_option maxRecDepth 100000 in
set_option maxHeartbeats 800000 in
/-- signal, the token's place empty. -/
theorem signal_room (b : Nat) (mf mb s n : Int) (fr : Value) (c : Nat) (u v : Nat) (w : World) (h : Box w b mf mb s fr n c) (hc : w.heap[c]? = some (.chan 1 #[] false u v false)) :
    Calls Yba.prog 22 #[.pointer (some ⟨b, 0, none⟩)] w fun e w' => e = .returned (.tuple #[]) ∧ w' = w.setChan c 1 #[.agg #[]] false (u + 1) v false := by
  refine calls_of_loneTo fun cs => ?_
  have e : Frame.enter Yba.prog 22 #[.pointer (some ⟨b, 0, none⟩)] .normal = (base 22).at ⟨#[.pointer (some ⟨b, 0, none⟩), undef, undef, undef, undef, undef, undef, undef, undef, undef], []⟩ [.code (Yba.f22.body.getD .skip)] := by
    simp [Frame.enter, Frame.at, Yba.func22, base, Yba.f22]
  rw [e]
  have h6 := h.c6
  have HC : Hid (w.heap[c]? = some (.chan 1 #[] false u v false)) := hc
  clear hc h
  refine LoneTo.goes (n := 14) ?_
  simp only [Yba.f22, Option.getD_some]
  s_c stepG_seq
  s_c stepG_seq
  s_reg
  s_op
  s_op
  s_op
  s_op
  s_c stepG_region_end
  s_reg
  s_op
  s_c stepG_region_end
  s_c stepG_seq
  s_reg
  s_stop
  refine LoneTo.step (step_lone_select_send_room (c := c) (v := .agg #[]) (z' := .agg #[]) (cap := 1) (buf := #[]) (s := u) (r := v) (tm := false) (stepG_comm (cases := #[scase c (.agg #[]) (.agg #[])]) (blocking := false) (shape := .select) (w' := w) rfl rfl (by decide) (by simp [go_sem, execOp, scase, Act.eval])) HC.out (by simp)) ?_
  rw [Frame.finish_at]
  walk_nrm
  refine LoneTo.goes (n := 11) ?_
  s_op
  s_op
  s_c stepG_region_end
  s_c stepG_block
  s_cond true
  s_c stepG_skip
  s_c stepG_inBlock
  s_c stepG_end
  s_stop
  exact LoneTo.done ⟨.returned (.tuple #[]), _, rfl, ⟨rfl, rfl⟩, rfl, rfl, rfl, rfl, _, Yba.func22, by simp [results, Yba.f22, Frame.at]⟩
set_option maxRecDepth 100000 in
set_option maxHeartbeats 800000 in
/-- signal, the token there already. -/
theorem signal_full (b : Nat) (mf mb s n : Int) (fr : Value) (c : Nat) (u v : Nat) (w : World) (h : Box w b mf mb s fr n c) (hc : w.heap[c]? = some (.chan 1 #[.agg #[]] false u v false)) :
    Calls Yba.prog 22 #[.pointer (some ⟨b, 0, none⟩)] w fun e w' => e = .returned (.tuple #[]) ∧ w' = w := by
  refine calls_of_loneTo fun cs => ?_
  have e : Frame.enter Yba.prog 22 #[.pointer (some ⟨b, 0, none⟩)] .normal = (base 22).at ⟨#[.pointer (some ⟨b, 0, none⟩), undef, undef, undef, undef, undef, undef, undef, undef, undef], []⟩ [.code (Yba.f22.body.getD .skip)] := by
    simp [Frame.enter, Frame.at, Yba.func22, base, Yba.f22]
  rw [e]
  have h6 := h.c6
  have HC : Hid (w.heap[c]? = some (.chan 1 #[.agg #[]] false u v false)) := hc
  clear hc h
  refine LoneTo.goes (n := 14) ?_
  simp only [Yba.f22, Option.getD_some]
  s_c stepG_seq
  s_c stepG_seq
  s_reg
  s_op
  s_op
  s_op
  s_op
  s_c stepG_region_end
  s_reg
  s_op
  s_c stepG_region_end
  s_c stepG_seq
  s_reg
  s_stop
  refine LoneTo.step (step_lone_select_send_full (c := c) (v := .agg #[]) (z' := .agg #[]) (cap := 1) (buf := #[.agg #[]]) (s := u) (r := v) (tm := false) (stepG_comm (cases := #[scase c (.agg #[]) (.agg #[])]) (blocking := false) (shape := .select) (w' := w) rfl rfl (by decide) (by simp [go_sem, execOp, scase, Act.eval])) HC.out (by simp)) ?_
  rw [Frame.finish_at]
  walk_nrm
  refine LoneTo.goes (n := 11) ?_
  s_op
  s_op
  s_c stepG_region_end
  s_c stepG_block
  s_cond false
  s_c stepG_skip
  s_c stepG_inBlock
  s_c stepG_end
  s_stop
  exact LoneTo.done ⟨.returned (.tuple #[]), _, rfl, ⟨rfl, rfl⟩, rfl, rfl, rfl, rfl, _, Yba.func22, by simp [results, Yba.f22, Frame.at]⟩
end Go.Proofs.Ybulkcsck.Ob
