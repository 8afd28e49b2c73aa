/-
  OWN TEXT. LawS4690AReport: the law, from its start.
-/
import Derived.Test.YbulkcsckRepN
namespace Go.Proofs.Ybulkcsck
open Go.RowKit

section
variable {P : Program} {ops : Array Oper} {rest : List Oper} {x y : Operand} {t ty' : TypeId} {pos : String} {after : Array Edge} {a : Act} {w : World} {Q : Exit → Act → World → Prop}
theorem st_at (cs : List Value) (z : Array Value) (n : Nat) (hx : a.eval x = .pointer (some ⟨n, 0, none⟩)) (hn : w.heap.size = n) (hy : a.eval y = .agg cs.toArray)
    (hi : (P.info? t).map (·.size) = some cs.length) (hz : z.size = cs.length) (h1 : ∀ v ∈ cs, v.oneCell' = true)
    (h : wpList P ops Q rest a (w.alloc (.cells cs.toArray t))) :
    wpList P ops Q ({ dst := none, op := .store t x y, type := ty', pos := pos, after := after, guard := none } :: rest) a (w.alloc (.cells z t)) := by
  subst hn
  exact st_new cs z hx hy hi hz h1 h
end

theorem three_ranges (w : World) (A B C : List Value) (t1 t2 t3 : TypeId) :
    (((w.alloc (.cells A.toArray t1)).alloc (.cells B.toArray t2)).alloc (.cells C.toArray t3)).rangeAt w.heap.size 0 A ∧ (((w.alloc (.cells A.toArray t1)).alloc (.cells B.toArray t2)).alloc (.cells C.toArray t3)).rangeAt (w.heap.size + 1) 0 B ∧
    (((w.alloc (.cells A.toArray t1)).alloc (.cells B.toArray t2)).alloc (.cells C.toArray t3)).rangeAt (w.heap.size + 1 + 1) 0 C ∧ w.heap.size + 3 ≤ (((w.alloc (.cells A.toArray t1)).alloc (.cells B.toArray t2)).alloc (.cells C.toArray t3)).heap.size ∧
    Below w.heap.size w (((w.alloc (.cells A.toArray t1)).alloc (.cells B.toArray t2)).alloc (.cells C.toArray t3)) := by
  have r1 := rangeAt_new w A t1
  have r2 := rangeAt_new (w.alloc (.cells A.toArray t1)) B t2
  have r3 := rangeAt_new ((w.alloc (.cells A.toArray t1)).alloc (.cells B.toArray t2)) C t3
  simp only [World.size_alloc] at r2 r3
  exact ⟨World.rangeAt_alloc (World.rangeAt_alloc r1 _) _, World.rangeAt_alloc r2 _, r3, by simp, (((Below.refl _ _).alloc (Nat.le_refl _) _).alloc (by simp) _).alloc (by simp; omega) _⟩
theorem sigs_of (d : Dt) (m : Int) (k : Nat) : (((repS d m 19).L.set 2 (.slice (some ⟨k, 0, none⟩) 1 1)).set 44 (.slice (some ⟨k, 0, none⟩) 1 1)).set 81 (.slice (some ⟨k, 0, none⟩) 1 1) = (repF d m (some ⟨k, 0, none⟩) 1 1).L := rfl
theorem rel_t (d : Dt) (m : Int) (w : World) (k : Nat) (O : Obj) : ∃ sa sn sc,
    ((((w.alloc (.cells d.L.toArray 24)).alloc (.cells (repS d m 0).L.toArray 34)).alloc (.cells ((((repS d m 19).L.set 2 (.slice (some ⟨k, 0, none⟩) 1 1)).set 44 (.slice (some ⟨k, 0, none⟩) 1 1)).set 81 (.slice (some ⟨k, 0, none⟩) 1 1)).toArray 34)).alloc O).rangeAt w.heap.size 0 d.L ∧
    ((((w.alloc (.cells d.L.toArray 24)).alloc (.cells (repS d m 0).L.toArray 34)).alloc (.cells ((((repS d m 19).L.set 2 (.slice (some ⟨k, 0, none⟩) 1 1)).set 44 (.slice (some ⟨k, 0, none⟩) 1 1)).set 81 (.slice (some ⟨k, 0, none⟩) 1 1)).toArray 34)).alloc O).rangeAt (w.heap.size + 1) 0 (repS d m 0).L ∧
    ((((w.alloc (.cells d.L.toArray 24)).alloc (.cells (repS d m 0).L.toArray 34)).alloc (.cells ((((repS d m 19).L.set 2 (.slice (some ⟨k, 0, none⟩) 1 1)).set 44 (.slice (some ⟨k, 0, none⟩) 1 1)).set 81 (.slice (some ⟨k, 0, none⟩) 1 1)).toArray 34)).alloc O).rangeAt (w.heap.size + 1 + 1) 0 (repF d m sa sn sc).L ∧
    w.heap.size + 3 ≤ ((((w.alloc (.cells d.L.toArray 24)).alloc (.cells (repS d m 0).L.toArray 34)).alloc (.cells ((((repS d m 19).L.set 2 (.slice (some ⟨k, 0, none⟩) 1 1)).set 44 (.slice (some ⟨k, 0, none⟩) 1 1)).set 81 (.slice (some ⟨k, 0, none⟩) 1 1)).toArray 34)).alloc O).heap.size ∧
    Below w.heap.size w ((((w.alloc (.cells d.L.toArray 24)).alloc (.cells (repS d m 0).L.toArray 34)).alloc (.cells ((((repS d m 19).L.set 2 (.slice (some ⟨k, 0, none⟩) 1 1)).set 44 (.slice (some ⟨k, 0, none⟩) 1 1)).set 81 (.slice (some ⟨k, 0, none⟩) 1 1)).toArray 34)).alloc O) := by
  rw [sigs_of]
  obtain ⟨a1, a2, a3, a4, a5⟩ := three_ranges w d.L (repS d m 0).L (repF d m (some ⟨k, 0, none⟩) 1 1).L 24 34 34
  exact ⟨_, _, _, World.rangeAt_alloc a1 _, World.rangeAt_alloc a2 _, World.rangeAt_alloc a3 _, by rw [World.size_alloc]; omega, a5.alloc (by omega) _⟩

set_option maxRecDepth 100000 in
set_option maxHeartbeats 1000000 in
theorem law_report (d : Dt) (m : Int) (w : World) (h0 : 0 ≤ m) (h1 : m < 4294967296) :
    Calls Yba.prog 3 #[.agg d.L.toArray, .int .u32 m] w fun e w' => e = .returned (.bool true) ∧ Below w.heap.size w w' := by
  obtain ⟨z34, hzs, hz⟩ := zero34
  have hE : (repS d m 0).Ok := repS_ok d m 0
  have hzs' : Hid (z34.size = (repS d m 0).L.length) := by unfold Hid; rw [hzs, St.len _ hE]
  clear hzs
  have hd0 : (w.alloc (.cells d.L.toArray 24)).rangeAt w.heap.size 0 d.L := rangeAt_new _ _ _
  have HD : Hid ((w.alloc (.cells d.L.toArray 24)).rangeAt w.heap.size 0 d.L) := hd0
  clear hd0
  have HX : Hid (((w.alloc (.cells d.L.toArray 24)).alloc (.cells (repS d m 0).L.toArray 34)).rangeAt (w.heap.size + 1) 0 (repS d m 0).L) := by
    have := rangeAt_new (w.alloc (.cells d.L.toArray 24)) (repS d m 0).L 34
    rw [World.size_alloc] at this
    exact this
  go_enter Yba.func3, Yba.ntmps3
  go_upto_region 1 with fail
  have hd : ∀ w', w' = w.alloc (.cells d.L.toArray 24) → w'.rangeAt w.heap.size 0 d.L := fun w' h => h ▸ HD.out
  have hdv : ∀ w', w' = w.alloc (.cells d.L.toArray 24) → w'.rangeAt w.heap.size 5 [.bool d.v0, .bool d.v1, .bool d.v2] := fun w' h =>
    rangeAt_part (l := [.int .i64 d.ep, .int .i64 d.ece, .int .i64 d.vw, .int .i64 d.ws, .bool d.lv]) (m := [.bool d.v0, .bool d.v1, .bool d.v2]) (hd w' h) 5 rfl
  refine Rt.plainL [some (.pointer (some ⟨w.heap.size, 0, none⟩)), some (.int .i64 d.ep), some (.pointer (some ⟨w.heap.size, 1, none⟩)), some (.int .i64 d.ece), some (.agg #[.int .i64 d.ece, .slice none 0 0]), some (.pointer (some ⟨w.heap.size, 2, none⟩)), some (.int .i64 d.vw), some (.pointer (some ⟨w.heap.size, 3, none⟩)), some (.int .i64 d.ws), some (.pointer (some ⟨w.heap.size, 4, none⟩)), some (.bool d.lv), some (.pointer (some ⟨w.heap.size, 5, none⟩)), some (.agg #[.bool d.v0, .bool d.v1, .bool d.v2]), some (.pointer (some ⟨w.heap.size, 8, none⟩)), some (.int .i64 d.ls), some (.pointer (some ⟨w.heap.size, 9, none⟩)), some (.int .i64 d.le), some (.pointer (some ⟨w.heap.size, 10, none⟩)), some (.int .i64 d.lw), some (.pointer (some ⟨w.heap.size, 11, none⟩)), some (.int .u8 d.lb), some (.agg (bytesV (d.lb :: z31)).toArray), some (.agg (repS d m 0).lk.L.toArray), some (.pointer (some ⟨w.heap.size, 12, none⟩)), some (.bool d.ld), some (.pointer (some ⟨w.heap.size, 13, none⟩)), some (.int .i64 d.hs), some (.pointer (some ⟨w.heap.size, 14, none⟩)), some (.int .i64 d.he), some (.pointer (some ⟨w.heap.size, 15, none⟩)), some (.int .i64 d.hw), some (.pointer (some ⟨w.heap.size, 16, none⟩)), some (.int .u8 d.hb), some (.agg (bytesV (d.hb :: z31)).toArray), some (.agg (repS d m 0).hq.L.toArray), some (.pointer (some ⟨w.heap.size, 17, none⟩)), some (.int .u8 d.tp), some (.agg (bytesV (d.tp :: z31)).toArray), some (.agg (repS d m 0).L.toArray)]
    (by kernel_rfl) (by kernel_rfl) ?_ ?_
  · skip
    refine Rt.yc ?_ ?_
    · exact Rt.y_field 0 0 (Rt.wn rfl) rfl (by kernel_rfl) Yba.underlying24 rfl (by kernel_rfl) rfl
    refine Rt.yc ?_ ?_
    · exact Rt.y_load w.heap.size 0 (Rt.wn rfl) rfl (by kernel_rfl) Yba.isAgg3 (fun w h => hd _ h 0 _ rfl)
    refine Rt.yc ?_ ?_
    · exact Rt.y_field 0 0 (Rt.wn rfl) rfl (by kernel_rfl) Yba.underlying24 rfl (by kernel_rfl) rfl
    refine Rt.yc ?_ ?_
    · exact Rt.y_load w.heap.size 1 (Rt.wn rfl) rfl (by kernel_rfl) Yba.isAgg3 (fun w h => hd _ h 1 _ rfl)
    refine Rt.yc ?_ ?_
    · exact Rt.y_build (bu28 d.ece) (Rt.wn rfl) rfl (by kernel_rfl)
    refine Rt.yc ?_ ?_
    · exact Rt.y_field 0 0 (Rt.wn rfl) rfl (by kernel_rfl) Yba.underlying24 rfl (by kernel_rfl) rfl
    refine Rt.yc ?_ ?_
    · exact Rt.y_load w.heap.size 2 (Rt.wn rfl) rfl (by kernel_rfl) Yba.isAgg3 (fun w h => hd _ h 2 _ rfl)
    refine Rt.yc ?_ ?_
    · exact Rt.y_field 0 0 (Rt.wn rfl) rfl (by kernel_rfl) Yba.underlying24 rfl (by kernel_rfl) rfl
    refine Rt.yc ?_ ?_
    · exact Rt.y_load w.heap.size 3 (Rt.wn rfl) rfl (by kernel_rfl) Yba.isAgg3 (fun w h => hd _ h 3 _ rfl)
    refine Rt.yc ?_ ?_
    · exact Rt.y_field 0 0 (Rt.wn rfl) rfl (by kernel_rfl) Yba.underlying24 rfl (by kernel_rfl) rfl
    refine Rt.yc ?_ ?_
    · exact Rt.y_load w.heap.size 4 (Rt.wn rfl) rfl (by kernel_rfl) Yba.isAgg4 (fun w h => hd _ h 4 _ rfl)
    refine Rt.yc ?_ ?_
    · exact Rt.y_field 2 0 (Rt.wn rfl) rfl (by kernel_rfl) Yba.underlying24 rfl (by kernel_rfl) rfl
    refine Rt.yc ?_ ?_
    · exact Rt.y_loadm w.heap.size 5 (Rt.wn rfl) rfl (by kernel_rfl) (fun w h => hdv _ h) Yba.underlying22 rfl (by kernel_rfl)
    refine Rt.yc ?_ ?_
    · exact Rt.y_field 0 0 (Rt.wn rfl) rfl (by kernel_rfl) Yba.underlying24 rfl (by kernel_rfl) rfl
    refine Rt.yc ?_ ?_
    · exact Rt.y_load w.heap.size 8 (Rt.wn rfl) rfl (by kernel_rfl) Yba.isAgg3 (fun w h => hd _ h 8 _ rfl)
    refine Rt.yc ?_ ?_
    · exact Rt.y_field 0 0 (Rt.wn rfl) rfl (by kernel_rfl) Yba.underlying24 rfl (by kernel_rfl) rfl
    refine Rt.yc ?_ ?_
    · exact Rt.y_load w.heap.size 9 (Rt.wn rfl) rfl (by kernel_rfl) Yba.isAgg3 (fun w h => hd _ h 9 _ rfl)
    refine Rt.yc ?_ ?_
    · exact Rt.y_field 0 0 (Rt.wn rfl) rfl (by kernel_rfl) Yba.underlying24 rfl (by kernel_rfl) rfl
    refine Rt.yc ?_ ?_
    · exact Rt.y_load w.heap.size 10 (Rt.wn rfl) rfl (by kernel_rfl) Yba.isAgg3 (fun w h => hd _ h 10 _ rfl)
    refine Rt.yc ?_ ?_
    · exact Rt.y_field 0 0 (Rt.wn rfl) rfl (by kernel_rfl) Yba.underlying24 rfl (by kernel_rfl) rfl
    refine Rt.yc ?_ ?_
    · exact Rt.y_load w.heap.size 11 (Rt.wn rfl) rfl (by kernel_rfl) Yba.isAgg5 (fun w h => hd _ h 11 _ rfl)
    refine Rt.yc ?_ ?_
    · exact Rt.y_build (bu30 d.lb) (Rt.wn rfl) rfl (by kernel_rfl)
    refine Rt.yc ?_ ?_
    · exact Rt.y_build (bu32 d.ls d.le d.lw d.lb) (Rt.wn rfl) rfl (by kernel_rfl)
    refine Rt.yc ?_ ?_
    · exact Rt.y_field 0 0 (Rt.wn rfl) rfl (by kernel_rfl) Yba.underlying24 rfl (by kernel_rfl) rfl
    refine Rt.yc ?_ ?_
    · exact Rt.y_load w.heap.size 12 (Rt.wn rfl) rfl (by kernel_rfl) Yba.isAgg4 (fun w h => hd _ h 12 _ rfl)
    refine Rt.yc ?_ ?_
    · exact Rt.y_field 0 0 (Rt.wn rfl) rfl (by kernel_rfl) Yba.underlying24 rfl (by kernel_rfl) rfl
    refine Rt.yc ?_ ?_
    · exact Rt.y_load w.heap.size 13 (Rt.wn rfl) rfl (by kernel_rfl) Yba.isAgg3 (fun w h => hd _ h 13 _ rfl)
    refine Rt.yc ?_ ?_
    · exact Rt.y_field 0 0 (Rt.wn rfl) rfl (by kernel_rfl) Yba.underlying24 rfl (by kernel_rfl) rfl
    refine Rt.yc ?_ ?_
    · exact Rt.y_load w.heap.size 14 (Rt.wn rfl) rfl (by kernel_rfl) Yba.isAgg3 (fun w h => hd _ h 14 _ rfl)
    refine Rt.yc ?_ ?_
    · exact Rt.y_field 0 0 (Rt.wn rfl) rfl (by kernel_rfl) Yba.underlying24 rfl (by kernel_rfl) rfl
    refine Rt.yc ?_ ?_
    · exact Rt.y_load w.heap.size 15 (Rt.wn rfl) rfl (by kernel_rfl) Yba.isAgg3 (fun w h => hd _ h 15 _ rfl)
    refine Rt.yc ?_ ?_
    · exact Rt.y_field 0 0 (Rt.wn rfl) rfl (by kernel_rfl) Yba.underlying24 rfl (by kernel_rfl) rfl
    refine Rt.yc ?_ ?_
    · exact Rt.y_load w.heap.size 16 (Rt.wn rfl) rfl (by kernel_rfl) Yba.isAgg5 (fun w h => hd _ h 16 _ rfl)
    refine Rt.yc ?_ ?_
    · exact Rt.y_build (bu30 d.hb) (Rt.wn rfl) rfl (by kernel_rfl)
    refine Rt.yc ?_ ?_
    · exact Rt.y_build (bu32 d.hs d.he d.hw d.hb) (Rt.wn rfl) rfl (by kernel_rfl)
    refine Rt.yc ?_ ?_
    · exact Rt.y_field 0 0 (Rt.wn rfl) rfl (by kernel_rfl) Yba.underlying24 rfl (by kernel_rfl) rfl
    refine Rt.yc ?_ ?_
    · exact Rt.y_load w.heap.size 17 (Rt.wn rfl) rfl (by kernel_rfl) Yba.isAgg5 (fun w h => hd _ h 17 _ rfl)
    refine Rt.yc ?_ ?_
    · exact Rt.y_build (bu30 d.tp) (Rt.wn rfl) rfl (by kernel_rfl)
    refine Rt.yc ?_ ?_
    · exact Rt.y_build (built34 (repS d m 0) hE) (Rt.wn rfl) rfl (by kernel_rfl)
    exact Rt.ye
  clear hd hdv
  simp only [List.drop_succ_cons, List.drop_zero, List.length_cons, List.length_nil, Nat.reduceAdd, Rt.putL, Act.put, List.setIfInBounds_toArray, List.set_cons_succ, List.set_cons_zero]
  go_upto_if 53 with (first
    | ((with_reducible refine st_at (repS d m 0).L z34 (w.heap.size + 1) ?_ ?_ ?_ ?_ ?_ ?_ ?_); rfl; exact (by simp); rfl; exact sz34 hE; exact hzs'.out; exact St.one _)
    | ((with_reducible refine st_at (repS d m 0).L z34 (w.heap.size + 2) ?_ ?_ ?_ ?_ ?_ ?_ ?_); rfl; exact (by simp); rfl; exact sz34 hE; exact hzs'.out; exact St.one _)
    | ((with_reducible refine ld34 (repS d m 0) hE (w.heap.size + 1) 0 ?_ ?_ ?_ ?_); rfl; rfl; exact HX.out)
    | ((with_reducible refine (bit_at m 0 0 rfl (by decide) _).mono ?_); rintro e w' ⟨rfl, rfl⟩))
  clear hz hzs' HX HD
  go_cut [] from 52 to 57 (fun wc => wc = ((w.alloc (.cells d.L.toArray 24)).alloc (.cells (repS d m 0).L.toArray 34)).alloc (.cells (repS d m 1).L.toArray 34))
  case first =>
    have gI := get0 d m
    go_wp2
    · go_meet
      case rel => exact congrArg (fun c => ((w.alloc (.cells d.L.toArray 24)).alloc (.cells (repS d m 0).L.toArray 34)).alloc (.cells c 34)) (stepT0 d m ‹_›)
    · go_meet
      case rel => rw [stepF0 d m ‹_›]
  subst hcut
  go_upto_if 59 with ((with_reducible refine (bit_at m 1 1 rfl (by decide) _).mono ?_); rintro e w' ⟨rfl, rfl⟩)
  go_cut [] from 58 to 63 (fun wc => wc = ((w.alloc (.cells d.L.toArray 24)).alloc (.cells (repS d m 0).L.toArray 34)).alloc (.cells (repS d m 2).L.toArray 34))
  case first =>
    have gI := get1 d m
    go_wp2
    · go_meet
      case rel => exact congrArg (fun c => ((w.alloc (.cells d.L.toArray 24)).alloc (.cells (repS d m 0).L.toArray 34)).alloc (.cells c 34)) (stepT1 d m ‹_›)
    · go_meet
      case rel => rw [stepF1 d m ‹_›]
  subst hcut
  go_upto_if 65 with ((with_reducible refine (bit_at m 2 2 rfl (by decide) _).mono ?_); rintro e w' ⟨rfl, rfl⟩)
  go_cut [] from 64 to 69 (fun wc => wc = ((w.alloc (.cells d.L.toArray 24)).alloc (.cells (repS d m 0).L.toArray 34)).alloc (.cells (repS d m 3).L.toArray 34))
  case first =>
    have gI := get2 d m
    go_wp2
    · go_meet
      case rel => exact congrArg (fun c => ((w.alloc (.cells d.L.toArray 24)).alloc (.cells (repS d m 0).L.toArray 34)).alloc (.cells c 34)) (stepT2 d m ‹_›)
    · go_meet
      case rel => rw [stepF2 d m ‹_›]
  subst hcut
  go_upto_if 71 with ((with_reducible refine (bit_at m 3 3 rfl (by decide) _).mono ?_); rintro e w' ⟨rfl, rfl⟩)
  go_cut [] from 70 to 75 (fun wc => wc = ((w.alloc (.cells d.L.toArray 24)).alloc (.cells (repS d m 0).L.toArray 34)).alloc (.cells (repS d m 4).L.toArray 34))
  case first =>
    have gI := get3 d m
    go_wp2
    · go_meet
      case rel => exact congrArg (fun c => ((w.alloc (.cells d.L.toArray 24)).alloc (.cells (repS d m 0).L.toArray 34)).alloc (.cells c 34)) (stepT3 d m ‹_›)
    · go_meet
      case rel => rw [stepF3 d m ‹_›]
  subst hcut
  go_upto_if 77 with ((with_reducible refine (bit_at m 4 4 rfl (by decide) _).mono ?_); rintro e w' ⟨rfl, rfl⟩)
  go_cut [] from 76 to 83 (fun wc => wc = ((w.alloc (.cells d.L.toArray 24)).alloc (.cells (repS d m 0).L.toArray 34)).alloc (.cells (repS d m 5).L.toArray 34))
  case first =>
    have gI := get4 d m
    go_wp2
    · go_meet
      case rel => exact congrArg (fun c => ((w.alloc (.cells d.L.toArray 24)).alloc (.cells (repS d m 0).L.toArray 34)).alloc (.cells c 34)) (stepT4 d m ‹_›)
    · go_meet
      case rel => rw [stepF4 d m ‹_›]
  subst hcut
  go_upto_if 85 with ((with_reducible refine (bit_at m 5 5 rfl (by decide) _).mono ?_); rintro e w' ⟨rfl, rfl⟩)
  go_cut [] from 84 to 91 (fun wc => wc = ((w.alloc (.cells d.L.toArray 24)).alloc (.cells (repS d m 0).L.toArray 34)).alloc (.cells (repS d m 6).L.toArray 34))
  case first =>
    have gI := get5 d m
    go_wp2
    · go_meet
      case rel => exact congrArg (fun c => ((w.alloc (.cells d.L.toArray 24)).alloc (.cells (repS d m 0).L.toArray 34)).alloc (.cells c 34)) (stepT5 d m ‹_›)
    · go_meet
      case rel => rw [stepF5 d m ‹_›]
  subst hcut
  go_upto_if 93 with ((with_reducible refine (bit_at m 6 6 rfl (by decide) _).mono ?_); rintro e w' ⟨rfl, rfl⟩)
  go_cut [] from 92 to 99 (fun wc => wc = ((w.alloc (.cells d.L.toArray 24)).alloc (.cells (repS d m 0).L.toArray 34)).alloc (.cells (repS d m 7).L.toArray 34))
  case first =>
    have gI := get6 d m
    go_wp2
    · go_meet
      case rel => exact congrArg (fun c => ((w.alloc (.cells d.L.toArray 24)).alloc (.cells (repS d m 0).L.toArray 34)).alloc (.cells c 34)) (stepT6 d m ‹_›)
    · go_meet
      case rel => rw [stepF6 d m ‹_›]
  subst hcut
  go_upto_if 101 with ((with_reducible refine (bit_at m 7 7 rfl (by decide) _).mono ?_); rintro e w' ⟨rfl, rfl⟩)
  go_cut [] from 100 to 107 (fun wc => wc = ((w.alloc (.cells d.L.toArray 24)).alloc (.cells (repS d m 0).L.toArray 34)).alloc (.cells (repS d m 8).L.toArray 34))
  case first =>
    have gI := get7 d m
    go_wp2
    · go_meet
      case rel => exact congrArg (fun c => ((w.alloc (.cells d.L.toArray 24)).alloc (.cells (repS d m 0).L.toArray 34)).alloc (.cells c 34)) (stepT7 d m ‹_›)
    · go_meet
      case rel => rw [stepF7 d m ‹_›]
  subst hcut
  go_upto_if 109 with ((with_reducible refine (bit_at m 8 8 rfl (by decide) _).mono ?_); rintro e w' ⟨rfl, rfl⟩)
  go_cut [] from 108 to 115 (fun wc => wc = ((w.alloc (.cells d.L.toArray 24)).alloc (.cells (repS d m 0).L.toArray 34)).alloc (.cells (repS d m 9).L.toArray 34))
  case first =>
    have gI := get8 d m
    go_wp2
    · go_meet
      case rel => exact congrArg (fun c => ((w.alloc (.cells d.L.toArray 24)).alloc (.cells (repS d m 0).L.toArray 34)).alloc (.cells c 34)) (stepT8 d m ‹_›)
    · go_meet
      case rel => rw [stepF8 d m ‹_›]
  subst hcut
  go_upto_if 117 with ((with_reducible refine (bit_at m 9 9 rfl (by decide) _).mono ?_); rintro e w' ⟨rfl, rfl⟩)
  go_cut [] from 116 to 123 (fun wc => wc = ((w.alloc (.cells d.L.toArray 24)).alloc (.cells (repS d m 0).L.toArray 34)).alloc (.cells (repS d m 10).L.toArray 34))
  case first =>
    have gI := get9 d m
    go_wp2
    · go_meet
      case rel => exact congrArg (fun c => ((w.alloc (.cells d.L.toArray 24)).alloc (.cells (repS d m 0).L.toArray 34)).alloc (.cells c 34)) (stepT9 d m ‹_›)
    · go_meet
      case rel => rw [stepF9 d m ‹_›]
  subst hcut
  go_upto_if 125 with ((with_reducible refine (bit_at m 10 10 rfl (by decide) _).mono ?_); rintro e w' ⟨rfl, rfl⟩)
  go_cut [] from 124 to 133 (fun wc => wc = ((w.alloc (.cells d.L.toArray 24)).alloc (.cells (repS d m 0).L.toArray 34)).alloc (.cells (repS d m 11).L.toArray 34))
  case first =>
    have gI := get10 d m
    go_wp2
    · go_meet
      case rel => exact congrArg (fun c => ((w.alloc (.cells d.L.toArray 24)).alloc (.cells (repS d m 0).L.toArray 34)).alloc (.cells c 34)) (stepT10 d m ‹_›)
    · go_meet
      case rel => rw [stepF10 d m ‹_›]
  subst hcut
  go_upto_if 135 with ((with_reducible refine (bit_at m 11 11 rfl (by decide) _).mono ?_); rintro e w' ⟨rfl, rfl⟩)
  go_cut [] from 134 to 139 (fun wc => wc = ((w.alloc (.cells d.L.toArray 24)).alloc (.cells (repS d m 0).L.toArray 34)).alloc (.cells (repS d m 12).L.toArray 34))
  case first =>
    have gI := get11 d m
    go_wp2
    · go_meet
      case rel => exact congrArg (fun c => ((w.alloc (.cells d.L.toArray 24)).alloc (.cells (repS d m 0).L.toArray 34)).alloc (.cells c 34)) (stepT11 d m ‹_›)
    · go_meet
      case rel => rw [stepF11 d m ‹_›]
  subst hcut
  go_upto_if 141 with ((with_reducible refine (bit_at m 12 12 rfl (by decide) _).mono ?_); rintro e w' ⟨rfl, rfl⟩)
  go_cut [] from 140 to 147 (fun wc => wc = ((w.alloc (.cells d.L.toArray 24)).alloc (.cells (repS d m 0).L.toArray 34)).alloc (.cells (repS d m 13).L.toArray 34))
  case first =>
    have gI := get12 d m
    go_wp2
    · go_meet
      case rel => exact congrArg (fun c => ((w.alloc (.cells d.L.toArray 24)).alloc (.cells (repS d m 0).L.toArray 34)).alloc (.cells c 34)) (stepT12 d m ‹_›)
    · go_meet
      case rel => rw [stepF12 d m ‹_›]
  subst hcut
  go_upto_if 149 with ((with_reducible refine (bit_at m 13 13 rfl (by decide) _).mono ?_); rintro e w' ⟨rfl, rfl⟩)
  go_cut [] from 148 to 155 (fun wc => wc = ((w.alloc (.cells d.L.toArray 24)).alloc (.cells (repS d m 0).L.toArray 34)).alloc (.cells (repS d m 14).L.toArray 34))
  case first =>
    have gI := get13 d m
    go_wp2
    · go_meet
      case rel => exact congrArg (fun c => ((w.alloc (.cells d.L.toArray 24)).alloc (.cells (repS d m 0).L.toArray 34)).alloc (.cells c 34)) (stepT13 d m ‹_›)
    · go_meet
      case rel => rw [stepF13 d m ‹_›]
  subst hcut
  go_upto_if 157 with ((with_reducible refine (bit_at m 14 14 rfl (by decide) _).mono ?_); rintro e w' ⟨rfl, rfl⟩)
  go_cut [] from 156 to 163 (fun wc => wc = ((w.alloc (.cells d.L.toArray 24)).alloc (.cells (repS d m 0).L.toArray 34)).alloc (.cells (repS d m 15).L.toArray 34))
  case first =>
    have gI := get14 d m
    go_wp2
    · go_meet
      case rel => exact congrArg (fun c => ((w.alloc (.cells d.L.toArray 24)).alloc (.cells (repS d m 0).L.toArray 34)).alloc (.cells c 34)) (stepT14 d m ‹_›)
    · go_meet
      case rel => rw [stepF14 d m ‹_›]
  subst hcut
  go_upto_if 165 with ((with_reducible refine (bit_at m 15 15 rfl (by decide) _).mono ?_); rintro e w' ⟨rfl, rfl⟩)
  go_cut [] from 164 to 173 (fun wc => wc = ((w.alloc (.cells d.L.toArray 24)).alloc (.cells (repS d m 0).L.toArray 34)).alloc (.cells (repS d m 16).L.toArray 34))
  case first =>
    have gI := get15 d m
    go_wp2
    · go_meet
      case rel => exact congrArg (fun c => ((w.alloc (.cells d.L.toArray 24)).alloc (.cells (repS d m 0).L.toArray 34)).alloc (.cells c 34)) (stepT15 d m ‹_›)
    · go_meet
      case rel => rw [stepF15 d m ‹_›]
  subst hcut
  go_upto_if 175 with ((with_reducible refine (bit_at m 16 16 rfl (by decide) _).mono ?_); rintro e w' ⟨rfl, rfl⟩)
  go_cut [] from 174 to 181 (fun wc => wc = ((w.alloc (.cells d.L.toArray 24)).alloc (.cells (repS d m 0).L.toArray 34)).alloc (.cells (repS d m 17).L.toArray 34))
  case first =>
    have gI := get16 d m
    go_wp2
    · go_meet
      case rel => exact congrArg (fun c => ((w.alloc (.cells d.L.toArray 24)).alloc (.cells (repS d m 0).L.toArray 34)).alloc (.cells c 34)) (stepT16 d m ‹_›)
    · go_meet
      case rel => rw [stepF16 d m ‹_›]
  subst hcut
  go_upto_if 183 with ((with_reducible refine (bit_at m 17 17 rfl (by decide) _).mono ?_); rintro e w' ⟨rfl, rfl⟩)
  go_cut [] from 182 to 189 (fun wc => wc = ((w.alloc (.cells d.L.toArray 24)).alloc (.cells (repS d m 0).L.toArray 34)).alloc (.cells (repS d m 18).L.toArray 34))
  case first =>
    have gI := get17 d m
    go_wp2
    · go_meet
      case rel => exact congrArg (fun c => ((w.alloc (.cells d.L.toArray 24)).alloc (.cells (repS d m 0).L.toArray 34)).alloc (.cells c 34)) (stepT17 d m ‹_›)
    · go_meet
      case rel => rw [stepF17 d m ‹_›]
  subst hcut
  go_upto_if 191 with ((with_reducible refine (bit_at m 18 18 rfl (by decide) _).mono ?_); rintro e w' ⟨rfl, rfl⟩)
  go_cut [] from 190 to 197 (fun wc => wc = ((w.alloc (.cells d.L.toArray 24)).alloc (.cells (repS d m 0).L.toArray 34)).alloc (.cells (repS d m 19).L.toArray 34))
  case first =>
    have gI := get18 d m
    go_wp2
    · go_meet
      case rel => exact congrArg (fun c => ((w.alloc (.cells d.L.toArray 24)).alloc (.cells (repS d m 0).L.toArray 34)).alloc (.cells c 34)) (stepT18 d m ‹_›)
    · go_meet
      case rel => rw [stepF18 d m ‹_›]
  subst hcut
  go_upto_if 199 with ((with_reducible refine (bit_at m 19 19 rfl (by decide) _).mono ?_); rintro e w' ⟨rfl, rfl⟩)
  go_cut [7] from 12 to 300 (fun _s7 wc => ∃ sa sn sc, wc.rangeAt w.heap.size 0 d.L ∧ wc.rangeAt (w.heap.size + 1) 0 (repS d m 0).L ∧ wc.rangeAt (w.heap.size + 1 + 1) 0 (repF d m sa sn sc).L ∧ w.heap.size + 3 ≤ wc.heap.size ∧ Below w.heap.size w wc)
  case first =>
    have g2 : (repS d m 19).L[2]? = some (.slice none 0 0) := rfl
    have g44 : (repS d m 19).L[44]? = some (.slice none 0 0) := rfl
    have g81 : (repS d m 19).L[81]? = some (.slice none 0 0) := rfl
    have b39 : ∀ w, (Instr.build 39 #[(0, .int .i64 1)]).run Yba.prog w = .ok (.agg #[.int .i64 1, .slice none 0 0]) w := fun w => run_build w 39 _ _ (by kernel_rfl)
    go_wp2
    · go_meet
      case rel => exact rel_t d m w _ _
    · go_meet
      case rel =>
        obtain ⟨a1, a2, a3, a4, a5⟩ := three_ranges w d.L (repS d m 0).L (repS d m 19).L 24 34 34
        exact ⟨none, 0, 0, a1, a2, a3, a4, a5⟩
  obtain ⟨sa, sn, sc, rd, re, rr, sz, bl⟩ := hcut
  go_step
  exact law_rest d m w wc w.heap.size sa sn sc _ _ _ _ _ _ _ _ _ _ _ _ _ _ _ _ _ _ _ _ _ _ _ _ _ _ _ _ _ _ _ _ _ _ _ _ _ _ _ _ _ _ _ _ _ _ _ _ _ _ _ _ _ _ _ _ _ _ _ _ _ _ _ _ _ _ _ _ _ _ _ _ _ _ _ _ _ _ _ _ _ _ _ _ _ _ _ _ _ _ _ _ _ _ _ _ _ _ _ _ _ _ _ _ _ _ _ _ _ _ _ _ _ _ _ _ _ _ _ _ _ _ _ _ _ _ _ _ _ _ _ _ _ _ _ _ _ _ _ _ _ _ _ _ _ _ _ _ _ _ _ _ _ _ _ _ _ _ _ _ _ _ _ _ _ _ _ _ _ _ _ _ _ _ _ _ _ _ _ _ _ _ _ _ _ _ _ _ _ _ _ _ _ _ _ _ _ _ _ _ _ _ _ _ _ _ _ _ _ _ _ _ _ _ _ _ _ _ _ _ _ _ _ _ _ _ _ _ _ _ _ _ _ _ _ _ _ _ _ _ _ _ _ _ _ _ _ _ _ _ _ _ _ _ _ _ _ _ _ _ _ _ _ _ _ _ _ _ _ _ _ _ _ _ _ _ _ _ _ _ _ _ _ _ _ _ _ _ _ _ h0 h1 rd re rr sz bl
end Go.Proofs.Ybulkcsck
