/-
  OWN TEXT. LawS4690AReport: QC.certifies, QC.compare, QC.names, zzs4690aqceq.
-/
import Derived.Test.YbulkcsckRepA
namespace Go.Proofs.Ybulkcsck
open Go.RowKit

attribute [local go_sem] Qc.g0 Qc.g1 Qc.g2 Qc.g35

set_option maxHeartbeats 400000 in
theorem certifies_any (q : Qc) (w : World) :
    Calls Yba.prog 49 #[.agg q.L.toArray] w fun e w' => e = .returned (.agg #[.int .i64 q.ep, .int .i64 q.vw]) ∧ Below w.heap.size w w' := by
  go_enter Yba.func49, Yba.ntmps49
  go_wp2
  exact bodyPost_ret (v := .agg #[.int .i64 q.ep, .int .i64 q.vw]) (by simp [results, Yba.results49, go_sem]) rfl ⟨rfl, (((Below.refl _ _).alloc (Nat.le_refl _) _).alloc (by simp) _)⟩

def qcmp (q r : Qc) : Int := orI (rankI q.ep q.vw r.ep r.vw) (cmpI q.st r.st)

/-- two lists of cells in the two blocks that a call has boxed -/
def Two (w : World) (l m : List Value) (w' : World) : Prop := w'.rangeAt w.heap.size 0 l ∧ w'.rangeAt (w.heap.size + 1) 0 m ∧ w.heap.size + 2 ≤ w'.heap.size ∧ Below w.heap.size w w'
theorem Two.start (w : World) (l m : List Value) (t : TypeId) : Two w l m ((w.alloc (.cells l.toArray t)).alloc (.cells m.toArray t)) := by
  refine ⟨World.rangeAt_alloc (rangeAt_new w l t) _, ?_, by simp, ((Below.refl _ _).alloc (Nat.le_refl _) _).alloc (by simp) _⟩
  have := rangeAt_new (w.alloc (.cells l.toArray t)) m t
  rw [World.size_alloc] at this
  exact this
theorem Two.drew {w w1 : World} {l m : List Value} (h : Two w l m w1) : Two w l m w1.drew := ⟨h.1, h.2.1, h.2.2.1, h.2.2.2.drew⟩
theorem Two.step {w w1 w2 : World} {l m : List Value} (h : Two w l m w1) (hb : Below w1.heap.size w1 w2) : Two w l m w2 := by
  obtain ⟨h1, h2, h3, h4⟩ := h
  exact ⟨rangeAt_below hb (by omega) h1, rangeAt_below hb (by omega) h2, by have := hb.size; omega, h4.trans (hb.mono (by omega))⟩

theorem slice2 (x y : Int) (w : World) : (Instr.buildSlice 60 2 #[(0, .int .i64 x), (1, .int .i64 y)]).run Yba.prog w = .ok (.slice (some ⟨w.heap.size, 0, none⟩) 2 2) (w.alloc (.cells #[.int .i64 x, .int .i64 y] 3)) := by
  simp [go_sem]

set_option maxRecDepth 100000 in
set_option maxHeartbeats 1000000 in
theorem qcompare_any (q r : Qc) (w : World) (hq : q.bl.length = 32) (hr : r.bl.length = 32) :
    Calls Yba.prog 38 #[.agg q.L.toArray, .agg r.L.toArray] w fun e w' => e = .returned (.int .i64 (qcmp q r)) ∧ Below w.heap.size w w' := by
  have t0 := Two.start w q.L r.L 32
  go_enter Yba.func38, Yba.ntmps38
  go_wp2
  refine Rt.region (Two w q.L r.L)
    [(0, .agg q.L.toArray), (2, .agg r.L.toArray), (5, .pointer (some ⟨w.heap.size, 0, none⟩)), (6, .int .i64 q.st), (7, .pointer (some ⟨w.heap.size + 1, 0, none⟩)), (8, .int .i64 r.st)] 7
    (by kernel_rfl) (by kernel_rfl) rfl (by kernel_rfl) t0.drew ?_ ?_
  · refine ⟨⟨_, rfl, Rt.y_loadm w.heap.size 0 rfl rfl (by kernel_rfl) (fun w h => h.1) Yba.underlying32 rfl (sz32 hq)⟩, ⟨_, rfl, Rt.y_loadm (w.heap.size + 1) 0 rfl rfl (by kernel_rfl) (fun w h => h.2.1) Yba.underlying32 rfl (sz32 hr)⟩,
      ⟨_, rfl, Rt.y_field 0 0 rfl rfl (by kernel_rfl) Yba.underlying32 rfl (by kernel_rfl) rfl⟩, ⟨_, rfl, Rt.y_load w.heap.size 0 rfl rfl (by kernel_rfl) Yba.isAgg3 (fun w h => h.1 0 _ rfl)⟩,
      ⟨_, rfl, Rt.y_field 0 0 rfl rfl (by kernel_rfl) Yba.underlying32 rfl (by kernel_rfl) rfl⟩, ⟨_, rfl, Rt.y_load (w.heap.size + 1) 0 rfl rfl (by kernel_rfl) Yba.isAgg3 (fun w h => h.2.1 0 _ rfl)⟩, trivial⟩
  have t0 := t0.drew
  generalize ((w.alloc (Obj.cells q.L.toArray 32)).alloc (Obj.cells r.L.toArray 32)).drew = w0 at t0 ⊢
  refine Rt.one 1 (by kernel_rfl) rfl rfl (Rt.wp_call (vs := #[.agg q.L.toArray]) rfl (by kernel_rfl) (Yba.call49 _) ?_)
  refine (certifies_any q _).mono ?_
  rintro e w1 ⟨rfl, hb1⟩
  have t1 := t0.step hb1
  refine ⟨_, rfl, t1, ?_⟩
  refine Rt.one 3 (by kernel_rfl) rfl rfl (Rt.wp_call (vs := #[.agg r.L.toArray]) rfl (by kernel_rfl) (Yba.call49 _) ?_)
  refine (certifies_any r _).mono ?_
  rintro e w2 ⟨rfl, hb2⟩
  have t2 := t1.step hb2
  refine ⟨_, rfl, t2, ?_⟩
  refine Rt.one 4 (by kernel_rfl) rfl rfl (Rt.wp_call (vs := #[.agg #[.int .i64 q.ep, .int .i64 q.vw], .agg #[.int .i64 r.ep, .int .i64 r.vw]]) rfl (by kernel_rfl) (Yba.call50 _) ?_)
  refine (rank_any q.ep q.vw r.ep r.vw _).mono ?_
  rintro e w3 ⟨rfl, hb3⟩
  have t3 := t2.step hb3
  refine ⟨_, rfl, t3, ?_⟩
  refine Rt.one 9 (by kernel_rfl) rfl rfl (Rt.wp_call (vs := #[.int .i64 q.st, .int .i64 r.st]) rfl (by kernel_rfl) (Yba.call51 _) ?_)
  refine (compare_any q.st r.st _).mono ?_
  rintro e w4 ⟨rfl, hw4⟩
  subst hw4
  refine ⟨_, rfl, t3, ?_⟩
  refine Rt.one 10 (by kernel_rfl) rfl rfl (Rt.wp_buildSlice (vs := #[(0, .int .i64 (rankI q.ep q.vw r.ep r.vw)), (1, .int .i64 (cmpI q.st r.st))]) rfl (by kernel_rfl) (slice2 _ _ _) ?_)
  have t5 := t3.step ((Below.refl _ _).alloc (Nat.le_refl _) (.cells #[.int .i64 (rankI q.ep q.vw r.ep r.vw), .int .i64 (cmpI q.st r.st)] 3))
  refine ⟨t5, ?_⟩
  refine Rt.one 11 (by kernel_rfl) rfl rfl (Rt.wp_call (vs := #[.slice (some ⟨w4.heap.size, 0, none⟩) 2 2]) rfl (by kernel_rfl) (Yba.call48 _) ?_)
  refine (or_any _ _ (rankI q.ep q.vw r.ep r.vw) (cmpI q.st r.st) _ (by simp [go_sem]) (by simp [go_sem])).mono ?_
  rintro e w6 ⟨rfl, hw6⟩
  subst hw6
  refine ⟨_, rfl, t5, ?_⟩
  refine Rt.more [(12, .int .i64 (qcmp q r))] 0 (by kernel_rfl) rfl (by kernel_rfl) t5 ⟨⟨_, rfl, Rt.y_assign rfl rfl (by kernel_rfl)⟩, trivial⟩ (Rt.done (by kernel_rfl) ?_ 0)
  go_wp2
  go_ret
  exact ⟨congrArg Ending.returned (by kernel_rfl), t5.2.2.2⟩

end Go.Proofs.Ybulkcsck
