/-
  OWN TEXT. LawS4690CGather: onVote, where the vote is passed over.
-/
import Derived.Test.YbulkcsckGaL
import Derived.Test.YbulkcsckRepA
namespace Go.Proofs.Ybulkcsck.Ga
open Go.RowKit

theorem ptrNilN {a : Act} {x : Operand} (w : World) (hx : a.eval x = .pointer none := by kernel_rfl) : (do eqGuard .eql 42 x (.const (.pointer none)) (a.eval x) (a.eval (.const (.pointer none))); binOp .eql 42 (a.eval x) (a.eval (.const (.pointer none))) : Sem Value).run Yba.prog w = .ok (.bool true) w := by
  rw [hx, BigFrame.eval_const]
  simp [go_sem]
theorem ptrNilS {a : Act} {x : Operand} (b : Nat) (w : World) (hx : a.eval x = .pointer (some ⟨b, 0, none⟩) := by kernel_rfl) : (do eqGuard .eql 42 x (.const (.pointer none)) (a.eval x) (a.eval (.const (.pointer none))); binOp .eql 42 (a.eval x) (a.eval (.const (.pointer none))) : Sem Value).run Yba.prog w = .ok (.bool false) w := by
  rw [hx, BigFrame.eval_const]
  simp [go_sem]
theorem neqI {a : Act} {x y : Operand} (m n : Int) (r : Bool) (hr : (m != n) = r) (w : World) (hx : a.eval x = .int .i64 m := by kernel_rfl) (hy : a.eval y = .int .i64 n := by kernel_rfl) : (do eqGuard .neq 3 x y (a.eval x) (a.eval y); binOp .neq 3 (a.eval x) (a.eval y) : Sem Value).run Yba.prog w = .ok (.bool r) w := by
  rw [hx, hy, ← hr]
  simp [go_sem]
theorem lssI {a : Act} {x y : Operand} (m n : Int) (r : Bool) (hr : decide (m < n) = r) (w : World) (hx : a.eval x = .int .i64 m := by kernel_rfl) (hy : a.eval y = .int .i64 n := by kernel_rfl) : (do eqGuard .lss 3 x y (a.eval x) (a.eval y); binOp .lss 3 (a.eval x) (a.eval y) : Sem Value).run Yba.prog w = .ok (.bool r) w := by
  rw [hx, hy, ← hr]
  simp [go_sem]
theorem gtrI {a : Act} {x y : Operand} (m n : Int) (r : Bool) (hr : decide (m > n) = r) (w : World) (hx : a.eval x = .int .i64 m := by kernel_rfl) (hy : a.eval y = .int .i64 n := by kernel_rfl) : (do eqGuard .gtr 3 x y (a.eval x) (a.eval y); binOp .gtr 3 (a.eval x) (a.eval y) : Sem Value).run Yba.prog w = .ok (.bool r) w := by
  rw [hx, hy, ← hr]
  simp [go_sem]
set_option maxRecDepth 100000 in
theorem neq30 (xs ys : List Int) (hx : xs.length = 32) (hy : ys.length = 32) (w : World) : (binOp .neq 30 (.agg (u8s xs).toArray) (.agg (u8s ys).toArray)).run Yba.prog w = .ok (.bool (!(xs == ys))) w := by
  have h := run_eqItems_bytes (P := Yba.prog) w 9998 (e := 5) Yba.underlying5 Yba.isAgg5 xs ys (by omega) 32 0 (by omega)
  simp only [List.drop_zero] at h
  have h2 := run_equalIn_array (P := Yba.prog) (i := Yba.t5) w 9999 (bytesV xs).toArray (bytesV ys).toArray Yba.underlying30 (by kernel_rfl)
  rw [cells5, List.range_eq_range', h] at h2
  show (binOp .neq 30 (.agg (bytesV xs).toArray) (.agg (bytesV ys).toArray)).run Yba.prog w = _
  simp only [binOp, Op.equal, Op.maxDepth, Sem.run_bind, h2, Result.andThen_ok, Sem.run_pure]
set_option maxRecDepth 100000 in
theorem neqB {a : Act} {x y : Operand} (xs ys : List Int) (hxl : xs.length = 32) (hyl : ys.length = 32) (r : Bool) (hr : (!(xs == ys)) = r) (w : World) (hx : a.eval x = .agg (u8s xs).toArray := by kernel_rfl) (hy : a.eval y = .agg (u8s ys).toArray := by kernel_rfl) : (do eqGuard .neq 30 x y (a.eval x) (a.eval y); binOp .neq 30 (a.eval x) (a.eval y) : Sem Value).run Yba.prog w = .ok (.bool r) w := by
  have hg : (eqGuard .neq 30 x y (.agg (u8s xs).toArray) (.agg (u8s ys).toArray)).run Yba.prog w = .ok () w := by simp [go_sem]
  rw [hx, hy, ← hr, Sem.run_bind, hg, Result.andThen_ok]
  exact neq30 xs ys hxl hyl w

/-- the vote and the proposed block, in memory -/
def GateS (mb bb : Nat) (s e v ep vw : Int) (bm bid : List Int) (w : World) : Prop := VoteAt mb s e v bm w ∧ w.cell? ⟨bb, 0, none⟩ = some (.int .i64 ep) ∧ w.cell? ⟨bb, 1, none⟩ = some (.int .i64 vw) ∧ w.rangeAt bb 36 (u8s bid)
theorem GateS.below {mb bb : Nat} {s e v ep vw : Int} {bm bid : List Int} {w w' : World} (h : GateS mb bb s e v ep vw bm bid w) (hb : Below w.heap.size w w') : GateS mb bb s e v ep vw bm bid w' := by
  have k : ∀ {b i : Nat} {u : Value}, w.cell? ⟨b, i, none⟩ = some u → w'.cell? ⟨b, i, none⟩ = some u := fun {b i u} hu => (hb.cell (p := ⟨b, i, none⟩) (World.block_lt_of_cell? w ⟨b, i, none⟩ hu)).trans hu
  exact ⟨⟨k h.1.1, k h.1.2.1, k h.1.2.2.1, fun j u hj => k (h.1.2.2.2 j u hj)⟩, k h.2.1, k h.2.2.1, fun j u hj => k (h.2.2.2 j u hj)⟩

set_option maxRecDepth 100000 in
set_option maxHeartbeats 1600000 in
theorem gate0 (rb mb : Nat) (fr : Value) (w : World) (h96 : w.cell? ⟨rb, 96, none⟩ = some (.pointer none))  :
    Calls Yba.prog 14 #[.pointer (some ⟨rb, 0, none⟩), fr, .pointer (some ⟨mb, 0, none⟩)] w fun e w' => e = .returned (.tuple #[]) ∧ Below w.heap.size w w' := by
  go_enter Yba.func14, Yba.ntmps14
  go_upto_region 1 with fail
  clear h96
  refine Rt.regionL (fun _ => True) [some (.pointer none), some (.bool true), some (.bool true), some undef, some undef, some undef, some (.bool true), some (.bool true), some undef, some undef, some undef, some undef, some undef, some undef, some undef, some undef, some undef, some (.bool true), some (.bool true), some undef, some undef, some undef, some undef, some undef, some undef, some undef, some undef, some undef, some (.bool true), some (.bool true), some undef, some undef, some undef, some undef, some undef, some undef, some undef, some undef, some undef, some (.bool true), some (.bool true), some undef, some undef, some undef, some undef, some undef, some (.bool true), some (.bool true), some undef, some undef, some undef, some undef, some undef, some (.bool true)] 0
    (by kernel_rfl) (by kernel_rfl) (by kernel_rfl) (by kernel_rfl) (by kernel_rfl) trivial ?_ ?_
  · skip
    refine Rt.yc (Rt.y_move (by kernel_rfl) rfl (by kernel_rfl)) ?_
    refine Rt.yc (Rt.y_bin (by kernel_rfl) rfl (fun w => ptrNilN w)) ?_
    refine Rt.yc (Rt.y_move (by kernel_rfl) rfl (by kernel_rfl)) ?_
    refine Rt.yc (Rt.y_off (by kernel_rfl)) ?_
    refine Rt.yc (Rt.y_off (by kernel_rfl)) ?_
    refine Rt.yc (Rt.y_off (by kernel_rfl)) ?_
    refine Rt.yc (Rt.y_pick true (by kernel_rfl) rfl (by kernel_rfl) (by kernel_rfl)) ?_
    refine Rt.yc (Rt.y_move (by kernel_rfl) rfl (by kernel_rfl)) ?_
    refine Rt.yc (Rt.y_off (by kernel_rfl)) ?_
    refine Rt.yc (Rt.y_off (by kernel_rfl)) ?_
    refine Rt.yc (Rt.y_off (by kernel_rfl)) ?_
    refine Rt.yc (Rt.y_off (by kernel_rfl)) ?_
    refine Rt.yc (Rt.y_off (by kernel_rfl)) ?_
    refine Rt.yc (Rt.y_off (by kernel_rfl)) ?_
    refine Rt.yc (Rt.y_off (by kernel_rfl)) ?_
    refine Rt.yc (Rt.y_off (by kernel_rfl)) ?_
    refine Rt.yc (Rt.y_off (by kernel_rfl)) ?_
    refine Rt.yc (Rt.y_pick true (by kernel_rfl) rfl (by kernel_rfl) (by kernel_rfl)) ?_
    refine Rt.yc (Rt.y_move (by kernel_rfl) rfl (by kernel_rfl)) ?_
    refine Rt.yc (Rt.y_off (by kernel_rfl)) ?_
    refine Rt.yc (Rt.y_off (by kernel_rfl)) ?_
    refine Rt.yc (Rt.y_off (by kernel_rfl)) ?_
    refine Rt.yc (Rt.y_off (by kernel_rfl)) ?_
    refine Rt.yc (Rt.y_off (by kernel_rfl)) ?_
    refine Rt.yc (Rt.y_off (by kernel_rfl)) ?_
    refine Rt.yc (Rt.y_off (by kernel_rfl)) ?_
    refine Rt.yc (Rt.y_off (by kernel_rfl)) ?_
    refine Rt.yc (Rt.y_off (by kernel_rfl)) ?_
    refine Rt.yc (Rt.y_pick true (by kernel_rfl) rfl (by kernel_rfl) (by kernel_rfl)) ?_
    refine Rt.yc (Rt.y_move (by kernel_rfl) rfl (by kernel_rfl)) ?_
    refine Rt.yc (Rt.y_off (by kernel_rfl)) ?_
    refine Rt.yc (Rt.y_off (by kernel_rfl)) ?_
    refine Rt.yc (Rt.y_off (by kernel_rfl)) ?_
    refine Rt.yc (Rt.y_off (by kernel_rfl)) ?_
    refine Rt.yc (Rt.y_off (by kernel_rfl)) ?_
    refine Rt.yc (Rt.y_off (by kernel_rfl)) ?_
    refine Rt.yc (Rt.y_off (by kernel_rfl)) ?_
    refine Rt.yc (Rt.y_off (by kernel_rfl)) ?_
    refine Rt.yc (Rt.y_off (by kernel_rfl)) ?_
    refine Rt.yc (Rt.y_pick true (by kernel_rfl) rfl (by kernel_rfl) (by kernel_rfl)) ?_
    refine Rt.yc (Rt.y_move (by kernel_rfl) rfl (by kernel_rfl)) ?_
    refine Rt.yc (Rt.y_off (by kernel_rfl)) ?_
    refine Rt.yc (Rt.y_off (by kernel_rfl)) ?_
    refine Rt.yc (Rt.y_off (by kernel_rfl)) ?_
    refine Rt.yc (Rt.y_off (by kernel_rfl)) ?_
    refine Rt.yc (Rt.y_off (by kernel_rfl)) ?_
    refine Rt.yc (Rt.y_pick true (by kernel_rfl) rfl (by kernel_rfl) (by kernel_rfl)) ?_
    refine Rt.yc (Rt.y_move (by kernel_rfl) rfl (by kernel_rfl)) ?_
    refine Rt.yc (Rt.y_off (by kernel_rfl)) ?_
    refine Rt.yc (Rt.y_off (by kernel_rfl)) ?_
    refine Rt.yc (Rt.y_off (by kernel_rfl)) ?_
    refine Rt.yc (Rt.y_off (by kernel_rfl)) ?_
    refine Rt.yc (Rt.y_off (by kernel_rfl)) ?_
    refine Rt.yc (Rt.y_pick true (by kernel_rfl) rfl (by kernel_rfl) (by kernel_rfl)) ?_
    exact Rt.ye
  with_reducible refine Rt.done ?_ ?_ 0
  · kernel_rfl
  simp only [Rt.putL, Act.put, List.setIfInBounds_toArray, List.set_cons_succ, List.set_cons_zero]
  go_wp2
  (try simp only [Exit.inBlock, Exit.then])
  refine bodyPost_ret (results_none rfl _ _ _) rfl ?_
  exact ⟨rfl, (Below.refl _ w).drew⟩

set_option maxRecDepth 100000 in
set_option maxHeartbeats 1600000 in
theorem gate1 (rb mb bb : Nat) (fr : Value) (w : World) (h96 : w.cell? ⟨rb, 96, none⟩ = some (.pointer (some ⟨bb, 0, none⟩))) (lv : Bool) (wi vw0 : Int) (h12 : w.cell? ⟨rb, 12, none⟩ = some (.bool lv)) (h11 : w.cell? ⟨rb, 11, none⟩ = some (.int .i64 wi)) (h10 : w.cell? ⟨rb, 10, none⟩ = some (.int .i64 vw0)) (hv : (!lv && decide (wi ≤ vw0)) = false) :
    Calls Yba.prog 14 #[.pointer (some ⟨rb, 0, none⟩), fr, .pointer (some ⟨mb, 0, none⟩)] w fun e w' => e = .returned (.tuple #[]) ∧ Below w.heap.size w w' := by
  have VOT : Hid (Calls Yba.prog 23 #[.pointer (some ⟨rb, 0, none⟩)] w.drew fun e w' => e = .returned (.bool false) ∧ Below w.drew.heap.size w.drew w') := by
    have q := voting_any rb lv wi vw0 w.drew h12 h11 h10
    rw [hv] at q
    exact q
  clear h12 h11 h10 hv
  go_enter Yba.func14, Yba.ntmps14
  go_upto_region 1 with fail
  clear h96
  refine Rt.regionL (fun _ => True) [some (.pointer (some ⟨bb, 0, none⟩)), some (.bool false), some (.bool false), some (.pointer (some ⟨rb, 0, none⟩))] 50
    (by kernel_rfl) (by kernel_rfl) (by kernel_rfl) (by kernel_rfl) (by kernel_rfl) trivial ?_ ?_
  · skip
    refine Rt.yc (Rt.y_move (by kernel_rfl) rfl (by kernel_rfl)) ?_
    refine Rt.yc (Rt.y_bin (by kernel_rfl) rfl (fun w => ptrNilS bb w)) ?_
    refine Rt.yc (Rt.y_move (by kernel_rfl) rfl (by kernel_rfl)) ?_
    refine Rt.yc (Rt.y_move (by kernel_rfl) rfl (by kernel_rfl)) ?_
    exact Rt.ye
  refine Rt.oneL 4 (by kernel_rfl) rfl (by kernel_rfl) ?_
  with_reducible refine Rt.wp_call (vs := #[.pointer (some ⟨rb, 0, none⟩)]) rfl ?_ (Yba.call23 _) ?_
  · kernel_rfl
  refine VOT.out.mono ?_
  rintro x w1 ⟨rfl, hb1⟩
  have hb1' : Below w.heap.size w w1 := (Below.refl _ w).drew.trans hb1
  refine ⟨_, rfl, trivial, ?_⟩
  refine Rt.moreL [none, none, none, none, none, some (.bool true), some (.bool true), some (.bool true), some undef, some undef, some undef, some undef, some undef, some undef, some undef, some undef, some undef, some (.bool true), some (.bool true), some undef, some undef, some undef, some undef, some undef, some undef, some undef, some undef, some undef, some (.bool true), some (.bool true), some undef, some undef, some undef, some undef, some undef, some undef, some undef, some undef, some undef, some (.bool true), some (.bool true), some undef, some undef, some undef, some undef, some undef, some (.bool true), some (.bool true), some undef, some undef, some undef, some undef, some undef, some (.bool true)] 0 (by kernel_rfl) (by kernel_rfl) (by kernel_rfl) (by kernel_rfl) trivial ?_ ?_
  · refine Rt.yn (Rt.yn (Rt.yn (Rt.yn (Rt.yn ?_))))
    refine Rt.yc (Rt.y_not (t := false) (by kernel_rfl) rfl (by kernel_rfl)) ?_
    refine Rt.yc (Rt.y_pick false (by kernel_rfl) rfl (by kernel_rfl) (by kernel_rfl)) ?_
    refine Rt.yc (Rt.y_move (by kernel_rfl) rfl (by kernel_rfl)) ?_
    refine Rt.yc (Rt.y_off (by kernel_rfl)) ?_
    refine Rt.yc (Rt.y_off (by kernel_rfl)) ?_
    refine Rt.yc (Rt.y_off (by kernel_rfl)) ?_
    refine Rt.yc (Rt.y_off (by kernel_rfl)) ?_
    refine Rt.yc (Rt.y_off (by kernel_rfl)) ?_
    refine Rt.yc (Rt.y_off (by kernel_rfl)) ?_
    refine Rt.yc (Rt.y_off (by kernel_rfl)) ?_
    refine Rt.yc (Rt.y_off (by kernel_rfl)) ?_
    refine Rt.yc (Rt.y_off (by kernel_rfl)) ?_
    refine Rt.yc (Rt.y_pick true (by kernel_rfl) rfl (by kernel_rfl) (by kernel_rfl)) ?_
    refine Rt.yc (Rt.y_move (by kernel_rfl) rfl (by kernel_rfl)) ?_
    refine Rt.yc (Rt.y_off (by kernel_rfl)) ?_
    refine Rt.yc (Rt.y_off (by kernel_rfl)) ?_
    refine Rt.yc (Rt.y_off (by kernel_rfl)) ?_
    refine Rt.yc (Rt.y_off (by kernel_rfl)) ?_
    refine Rt.yc (Rt.y_off (by kernel_rfl)) ?_
    refine Rt.yc (Rt.y_off (by kernel_rfl)) ?_
    refine Rt.yc (Rt.y_off (by kernel_rfl)) ?_
    refine Rt.yc (Rt.y_off (by kernel_rfl)) ?_
    refine Rt.yc (Rt.y_off (by kernel_rfl)) ?_
    refine Rt.yc (Rt.y_pick true (by kernel_rfl) rfl (by kernel_rfl) (by kernel_rfl)) ?_
    refine Rt.yc (Rt.y_move (by kernel_rfl) rfl (by kernel_rfl)) ?_
    refine Rt.yc (Rt.y_off (by kernel_rfl)) ?_
    refine Rt.yc (Rt.y_off (by kernel_rfl)) ?_
    refine Rt.yc (Rt.y_off (by kernel_rfl)) ?_
    refine Rt.yc (Rt.y_off (by kernel_rfl)) ?_
    refine Rt.yc (Rt.y_off (by kernel_rfl)) ?_
    refine Rt.yc (Rt.y_off (by kernel_rfl)) ?_
    refine Rt.yc (Rt.y_off (by kernel_rfl)) ?_
    refine Rt.yc (Rt.y_off (by kernel_rfl)) ?_
    refine Rt.yc (Rt.y_off (by kernel_rfl)) ?_
    refine Rt.yc (Rt.y_pick true (by kernel_rfl) rfl (by kernel_rfl) (by kernel_rfl)) ?_
    refine Rt.yc (Rt.y_move (by kernel_rfl) rfl (by kernel_rfl)) ?_
    refine Rt.yc (Rt.y_off (by kernel_rfl)) ?_
    refine Rt.yc (Rt.y_off (by kernel_rfl)) ?_
    refine Rt.yc (Rt.y_off (by kernel_rfl)) ?_
    refine Rt.yc (Rt.y_off (by kernel_rfl)) ?_
    refine Rt.yc (Rt.y_off (by kernel_rfl)) ?_
    refine Rt.yc (Rt.y_pick true (by kernel_rfl) rfl (by kernel_rfl) (by kernel_rfl)) ?_
    refine Rt.yc (Rt.y_move (by kernel_rfl) rfl (by kernel_rfl)) ?_
    refine Rt.yc (Rt.y_off (by kernel_rfl)) ?_
    refine Rt.yc (Rt.y_off (by kernel_rfl)) ?_
    refine Rt.yc (Rt.y_off (by kernel_rfl)) ?_
    refine Rt.yc (Rt.y_off (by kernel_rfl)) ?_
    refine Rt.yc (Rt.y_off (by kernel_rfl)) ?_
    refine Rt.yc (Rt.y_pick true (by kernel_rfl) rfl (by kernel_rfl) (by kernel_rfl)) ?_
    exact Rt.ye
  with_reducible refine Rt.done ?_ ?_ 0
  · kernel_rfl
  simp only [Rt.putL, Act.put, List.setIfInBounds_toArray, List.set_cons_succ, List.set_cons_zero]
  go_wp2
  (try simp only [Exit.inBlock, Exit.then])
  refine bodyPost_ret (results_none rfl _ _ _) rfl ?_
  exact ⟨rfl, hb1'⟩
end Go.Proofs.Ybulkcsck.Ga
