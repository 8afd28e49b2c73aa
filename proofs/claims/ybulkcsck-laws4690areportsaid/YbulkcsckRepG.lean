/-
  OWN TEXT. LawS4690AReport: (*Replica).State.
-/
import Derived.Test.YbulkcsckRepF
namespace Go.Proofs.Ybulkcsck
open Go.RowKit

/-- A replica at block rb, its tip at block tb, shows the state s. -/
structure RepAt (rb tb : Nat) (s : St) (w : World) : Prop where
  ep : w.cell? ⟨rb, 7, none⟩ = some (.int .i64 s.ep)
  ec : w.rangeAt rb 8 [.int .i64 s.ecEp, .slice s.ea s.en s.ec]
  vw : w.cell? ⟨rb, 10, none⟩ = some (.int .i64 s.vw)
  ws : w.cell? ⟨rb, 11, none⟩ = some (.int .i64 s.ws)
  lv : w.cell? ⟨rb, 12, none⟩ = some (.bool s.lv)
  hq : w.rangeAt rb 16 s.hq.L
  lk : w.rangeAt rb 52 s.lk.L
  ld : w.cell? ⟨rb, 88, none⟩ = some (.bool s.ld)
  tip : w.cell? ⟨rb, 90, none⟩ = some (.pointer (some ⟨tb, 0, none⟩))
  vt : w.rangeAt rb 93 [.bool s.v0, .bool s.v1, .bool s.v2]
  tp : w.rangeAt tb 36 (bytesV s.tp)
theorem RepAt.below {rb tb : Nat} {s : St} {w w' : World} (h : RepAt rb tb s w) {B : Nat} (hb : Below B w w') (h1 : rb < B) (h2 : tb < B) : RepAt rb tb s w' :=
  ⟨(hb.cell (p := ⟨rb, 7, none⟩) h1).trans h.ep, rangeAt_below hb h1 h.ec, (hb.cell (p := ⟨rb, 10, none⟩) h1).trans h.vw, (hb.cell (p := ⟨rb, 11, none⟩) h1).trans h.ws, (hb.cell (p := ⟨rb, 12, none⟩) h1).trans h.lv,
    rangeAt_below hb h1 h.hq, rangeAt_below hb h1 h.lk, (hb.cell (p := ⟨rb, 88, none⟩) h1).trans h.ld, (hb.cell (p := ⟨rb, 90, none⟩) h1).trans h.tip, rangeAt_below hb h1 h.vt, rangeAt_below hb h2 h.tp⟩

section
variable {P : Program} {ops : Array Oper} {S : World → Prop} {o : Oper} {a : Act} {x : Operand}
theorem slice41 {b : Nat} (hw : Region.wanted o (yielded ops a.tmps) = true) (ho : o.op = .slice 41 x (some (.const (.int .i64 1))) none none) (hx : a.eval x = .pointer (some ⟨b, 92, none⟩)) :
    YieldsIf Yba.prog ops S o (.slice (some ⟨b, 93, none⟩) 3 3) a := Rt.y_of hw fun w _ => by
  unfold execOp
  simp only [ho, hx, Option.map_some, Option.map_none, BigFrame.eval_const]
  simp [go_sem, Instr.sliceAt, Instr.sliceBounds]
theorem arr22 {b o' : Nat} (hw : Region.wanted o (yielded ops a.tmps) = true) (ho : o.op = .sliceToArrayPointer 22 x) (hx : a.eval x = .slice (some ⟨b, o', none⟩) 3 3) :
    YieldsIf Yba.prog ops S o (.pointer (some ⟨b, o', none⟩)) a := Rt.y_of hw fun w _ => by
  unfold execOp
  simp only [ho, hx]
  simp [go_sem, Instr.arrayAt]
end

theorem zero34 : ∃ z : Array Value, z.size = 114 ∧ ∀ w, (zeroValue 34).run Yba.prog w = .ok (.agg z) w :=
  ⟨(Yba.t34.zero.getD undef).cells, by kernel_rfl, (zero_of_info (n := 114) (by kernel_rfl)).1⟩
theorem Qc.one (q : Qc) : ∀ v ∈ q.L, v.oneCell' = true := by
  intro v hv
  simp only [Qc.L, bytesV, List.mem_cons, List.mem_append, List.mem_map, List.not_mem_nil, or_false] at hv
  rcases hv with rfl | rfl | rfl | ⟨x, _, rfl⟩ | rfl <;> rfl
theorem St.one (s : St) : ∀ v ∈ s.L, v.oneCell' = true := by
  intro v hv
  simp only [St.L, List.mem_cons, List.mem_append] at hv
  rcases hv with rfl | rfl | rfl | rfl | rfl | rfl | rfl | rfl | rfl | h | rfl | h | h
  all_goals first | rfl | exact Qc.one _ v h | (simp only [bytesV, List.mem_map] at h; obtain ⟨x, _, rfl⟩ := h; rfl)

set_option maxRecDepth 100000 in
set_option maxHeartbeats 1000000 in
theorem state_any (rb tb : Nat) (s : St) (w : World) (hs : s.Ok) (h : RepAt rb tb s w) (h1 : rb < w.heap.size) (h2 : tb < w.heap.size) :
    Calls Yba.prog 17 #[.pointer (some ⟨rb, 0, none⟩)] w fun e w' => e = .returned (.agg s.L.toArray) ∧ w' = (w.alloc (.cells s.L.toArray 34)).drew := by
  obtain ⟨z34, hzs, hz⟩ := zero34
  have hS : RepAt rb tb s (w.alloc (.cells z34 34)).drew := h.below (B := w.heap.size) (((Below.refl _ _).alloc (Nat.le_refl _) _).drew) h1 h2
  have HS : Hid (RepAt rb tb s (w.alloc (.cells z34 34)).drew) := hS
  have h : Hid (RepAt rb tb s w) := h
  clear hS
  go_enter Yba.func17, Yba.ntmps17
  go_wp2
  refine Rt.regionL (RepAt rb tb s)
    [some (.pointer (some ⟨rb, 0, none⟩)), some (.pointer (some ⟨rb, 0, none⟩)), some (.pointer (some ⟨rb, 7, none⟩)), some (.int .i64 s.ep), some (.pointer (some ⟨rb, 0, none⟩)), some (.pointer (some ⟨rb, 0, none⟩)), some (.pointer (some ⟨rb, 8, none⟩)), some (.agg #[.int .i64 s.ecEp, .slice s.ea s.en s.ec]), some (.pointer (some ⟨rb, 0, none⟩)), some (.pointer (some ⟨rb, 0, none⟩)), some (.pointer (some ⟨rb, 10, none⟩)), some (.int .i64 s.vw), some (.pointer (some ⟨rb, 0, none⟩)), some (.pointer (some ⟨rb, 0, none⟩)), some (.pointer (some ⟨rb, 11, none⟩)), some (.int .i64 s.ws), some (.pointer (some ⟨rb, 0, none⟩)), some (.pointer (some ⟨rb, 0, none⟩)), some (.pointer (some ⟨rb, 12, none⟩)), some (.bool s.lv), some (.pointer (some ⟨rb, 0, none⟩)), some (.pointer (some ⟨rb, 0, none⟩)), some (.pointer (some ⟨rb, 92, none⟩)), some (.slice (some ⟨rb, 93, none⟩) 3 3), some (.pointer (some ⟨rb, 93, none⟩)), some (.agg #[.bool s.v0, .bool s.v1, .bool s.v2]), some (.pointer (some ⟨rb, 0, none⟩)), some (.pointer (some ⟨rb, 0, none⟩)), some (.pointer (some ⟨rb, 52, none⟩)), some (.agg s.lk.L.toArray), some (.pointer (some ⟨rb, 0, none⟩)), some (.pointer (some ⟨rb, 0, none⟩)), some (.pointer (some ⟨rb, 88, none⟩)), some (.bool s.ld), some (.pointer (some ⟨rb, 0, none⟩)), some (.pointer (some ⟨rb, 0, none⟩)), some (.pointer (some ⟨rb, 16, none⟩)), some (.agg s.hq.L.toArray), some (.pointer (some ⟨rb, 0, none⟩)), some (.pointer (some ⟨rb, 0, none⟩)), some (.pointer (some ⟨rb, 90, none⟩)), some (.pointer (some ⟨tb, 0, none⟩)), some (.pointer (some ⟨tb, 0, none⟩)), some (.pointer (some ⟨tb, 36, none⟩)), some (.agg (bytesV s.tp).toArray), some (.agg s.L.toArray)] 1
    (by kernel_rfl) (by kernel_rfl) (by kernel_rfl) (by kernel_rfl) (by kernel_rfl) HS.out ?_ ?_
  · skip
    refine Rt.yc ?_ ?_
    · exact Rt.y_move rfl rfl (by kernel_rfl)
    refine Rt.yc ?_ ?_
    · exact Rt.y_nil rfl rfl (by kernel_rfl)
    refine Rt.yc ?_ ?_
    · exact Rt.y_field 0 0 rfl rfl (by kernel_rfl) Yba.underlying72 rfl (by kernel_rfl) rfl
    refine Rt.yc ?_ ?_
    · exact Rt.y_load rb 7 rfl rfl (by kernel_rfl) Yba.isAgg3 (fun w h => h.ep)
    refine Rt.yc ?_ ?_
    · exact Rt.y_move rfl rfl (by kernel_rfl)
    refine Rt.yc ?_ ?_
    · exact Rt.y_nil rfl rfl (by kernel_rfl)
    refine Rt.yc ?_ ?_
    · exact Rt.y_field 1 0 rfl rfl (by kernel_rfl) Yba.underlying72 rfl (by kernel_rfl) rfl
    refine Rt.yc ?_ ?_
    · exact Rt.y_loadm rb 8 rfl rfl (by kernel_rfl) (fun w h => h.ec) Yba.underlying28 rfl (by kernel_rfl)
    refine Rt.yc ?_ ?_
    · exact Rt.y_move rfl rfl (by kernel_rfl)
    refine Rt.yc ?_ ?_
    · exact Rt.y_nil rfl rfl (by kernel_rfl)
    refine Rt.yc ?_ ?_
    · exact Rt.y_field 0 0 rfl rfl (by kernel_rfl) Yba.underlying72 rfl (by kernel_rfl) rfl
    refine Rt.yc ?_ ?_
    · exact Rt.y_load rb 10 rfl rfl (by kernel_rfl) Yba.isAgg3 (fun w h => h.vw)
    refine Rt.yc ?_ ?_
    · exact Rt.y_move rfl rfl (by kernel_rfl)
    refine Rt.yc ?_ ?_
    · exact Rt.y_nil rfl rfl (by kernel_rfl)
    refine Rt.yc ?_ ?_
    · exact Rt.y_field 0 0 rfl rfl (by kernel_rfl) Yba.underlying72 rfl (by kernel_rfl) rfl
    refine Rt.yc ?_ ?_
    · exact Rt.y_load rb 11 rfl rfl (by kernel_rfl) Yba.isAgg3 (fun w h => h.ws)
    refine Rt.yc ?_ ?_
    · exact Rt.y_move rfl rfl (by kernel_rfl)
    refine Rt.yc ?_ ?_
    · exact Rt.y_nil rfl rfl (by kernel_rfl)
    refine Rt.yc ?_ ?_
    · exact Rt.y_field 0 0 rfl rfl (by kernel_rfl) Yba.underlying72 rfl (by kernel_rfl) rfl
    refine Rt.yc ?_ ?_
    · exact Rt.y_load rb 12 rfl rfl (by kernel_rfl) Yba.isAgg4 (fun w h => h.lv)
    refine Rt.yc ?_ ?_
    · exact Rt.y_move rfl rfl (by kernel_rfl)
    refine Rt.yc ?_ ?_
    · exact Rt.y_nil rfl rfl (by kernel_rfl)
    refine Rt.yc ?_ ?_
    · exact Rt.y_field 3 0 rfl rfl (by kernel_rfl) Yba.underlying72 rfl (by kernel_rfl) rfl
    refine Rt.yc ?_ ?_
    · exact slice41 rfl rfl (by kernel_rfl)
    refine Rt.yc ?_ ?_
    · exact arr22 rfl rfl (by kernel_rfl)
    refine Rt.yc ?_ ?_
    · exact Rt.y_loadm rb 93 rfl rfl (by kernel_rfl) (fun w h => h.vt) Yba.underlying22 rfl (by kernel_rfl)
    refine Rt.yc ?_ ?_
    · exact Rt.y_move rfl rfl (by kernel_rfl)
    refine Rt.yc ?_ ?_
    · exact Rt.y_nil rfl rfl (by kernel_rfl)
    refine Rt.yc ?_ ?_
    · exact Rt.y_field 35 0 rfl rfl (by kernel_rfl) Yba.underlying72 rfl (by kernel_rfl) rfl
    refine Rt.yc ?_ ?_
    · exact Rt.y_loadm rb 52 rfl rfl (by kernel_rfl) (fun w h => h.lk) Yba.underlying32 rfl (sz32 hs.lk)
    refine Rt.yc ?_ ?_
    · exact Rt.y_move rfl rfl (by kernel_rfl)
    refine Rt.yc ?_ ?_
    · exact Rt.y_nil rfl rfl (by kernel_rfl)
    refine Rt.yc ?_ ?_
    · exact Rt.y_field 0 0 rfl rfl (by kernel_rfl) Yba.underlying72 rfl (by kernel_rfl) rfl
    refine Rt.yc ?_ ?_
    · exact Rt.y_load rb 88 rfl rfl (by kernel_rfl) Yba.isAgg4 (fun w h => h.ld)
    refine Rt.yc ?_ ?_
    · exact Rt.y_move rfl rfl (by kernel_rfl)
    refine Rt.yc ?_ ?_
    · exact Rt.y_nil rfl rfl (by kernel_rfl)
    refine Rt.yc ?_ ?_
    · exact Rt.y_field 35 0 rfl rfl (by kernel_rfl) Yba.underlying72 rfl (by kernel_rfl) rfl
    refine Rt.yc ?_ ?_
    · exact Rt.y_loadm rb 16 rfl rfl (by kernel_rfl) (fun w h => h.hq) Yba.underlying32 rfl (sz32 hs.hq)
    refine Rt.yc ?_ ?_
    · exact Rt.y_move rfl rfl (by kernel_rfl)
    refine Rt.yc ?_ ?_
    · exact Rt.y_nil rfl rfl (by kernel_rfl)
    refine Rt.yc ?_ ?_
    · exact Rt.y_field 0 0 rfl rfl (by kernel_rfl) Yba.underlying72 rfl (by kernel_rfl) rfl
    refine Rt.yc ?_ ?_
    · exact Rt.y_load rb 90 rfl rfl (by kernel_rfl) Yba.isAgg42 (fun w h => h.tip)
    refine Rt.yc ?_ ?_
    · exact Rt.y_nil rfl rfl (by kernel_rfl)
    refine Rt.yc ?_ ?_
    · exact Rt.y_field 31 0 rfl rfl (by kernel_rfl) Yba.underlying44 rfl (by kernel_rfl) rfl
    refine Rt.yc ?_ ?_
    · exact Rt.y_loadm tb 36 rfl rfl (by kernel_rfl) (fun w h => h.tp) Yba.underlying30 rfl (sz30 hs.tp)
    refine Rt.yc ?_ ?_
    · exact Rt.y_build (built34 s hs) rfl rfl (by kernel_rfl)
    exact Rt.ye
  refine Rt.oneL 46 (by kernel_rfl) rfl (Rt.wn rfl) ?_
  with_reducible refine Rt.wp_store_new (cs := s.L) (w := w) (z := z34) (t := 34) (x := .tmp 2) (y := .tmp 48) ?_ ?_ ?_ ?_ ?_ ?_ ?_
  · rfl
  · kernel_rfl
  · kernel_rfl
  · exact sz34 hs
  · rw [hzs, s.len hs]
  · exact s.one
  have hS2 : RepAt rb tb s (w.alloc (.cells s.L.toArray 34)).drew := h.out.below (B := w.heap.size) (((Below.refl _ _).alloc (Nat.le_refl _) _).drew) h1 h2
  refine ⟨hS2, ?_⟩
  with_reducible refine Rt.done ?_ ?_ 0
  · kernel_rfl
  go_wp2
  refine bodyPost_ret (v := .agg s.L.toArray) ?_ ?_ ⟨rfl, rfl⟩
  · exact results_cell_row rfl _ _ w.heap.size 34 s.L.toArray (0, 0) _ (by kernel_rfl) (heap_alloc_new w _) Yba.underlying34 rfl (by simpa using sz34 hs)
  · kernel_rfl
end Go.Proofs.Ybulkcsck
