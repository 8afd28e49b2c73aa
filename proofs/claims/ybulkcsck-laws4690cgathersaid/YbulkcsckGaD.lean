/-
  OWN TEXT. LawS4690CGather: voteSays, Vote.says, QC.says.
-/
import Derived.Test.YbulkcsckGaC
import Derived.Test.YbulkcsckRt
namespace Go.Proofs.Ybulkcsck.Ga
open Go.RowKit

theorem slice30 (b : Nat) (w : World) : (Instr.sliceAt 30 (.pointer (some ⟨b, 0, none⟩)) none none none).run Yba.prog w = .ok (.slice (some ⟨b, 0, none⟩) 32 32) w := by
  simp [go_sem]
theorem y_slice {P : Program} {ops : Array Oper} {S : World → Prop} {o : Oper} {a : Act} {x : Operand} {t : TypeId} {v : Value} (p : Value) (hw : Region.wanted o (yielded ops a.tmps) = true) (ho : o.op = .slice t x none none none) (hx : a.eval x = p)
    (hr : ∀ w, (Instr.sliceAt t p none none none).run P w = .ok v w) : YieldsIf P ops S o v a :=
  Rt.y_of hw fun w _ => by
    unfold execOp
    simp only [ho, hx, Option.map_none, hr, Sem.run_bind, Sem.run_pure, Result.andThen_ok]
theorem wp_append {P : Program} {Q : Exit → Act → World → Prop} {o : Oper} {a : Act} (s x : Operand) (t t' ty : TypeId) {w w' : World} {K : Act → World → Prop}
    (ho : o.op = .call { callee := .builtin .append, args := #[s, x], argTypes := #[t, t'] }) (hty : o.type = ty) {v y v' : Value} (hs : a.eval s = v) (hx : a.eval x = y) (hr : (Builtin.append_ #[t, t'] ty #[v, y]).run P w = .ok v' w')
    (h : K (a.put o.dst v') w') : o.wp P a w K Q := by
  subst hty
  unfold Oper.wp execOp
  simp only [ho, resolve, invoke, builtin, Sem.run_bind, Sem.run_pure, Result.andThen_ok, List.map_toArray, List.map_cons, List.map_nil, hs, hx, hr]
  exact h

theorem build60 (a b c : Int) (w : World) : (Instr.buildSlice 60 3 #[(0, .int .i64 a), (1, .int .i64 b), (2, .int .i64 c)]).run Yba.prog w = .ok (.slice (some ⟨w.heap.size, 0, none⟩) 3 3) (w.alloc (.cells #[.int .i64 a, .int .i64 b, .int .i64 c] 3)) := by
  simp [go_sem]

set_option maxRecDepth 100000 in
set_option maxHeartbeats 1600000 in
theorem voteSays (s e v : Int) (bid : List Int) (hl : bid.length = 32) (w : World) :
    Calls Yba.prog 36 #[.int .i64 s, .int .i64 e, .int .i64 v, .agg (u8s bid).toArray] w (OwnP w.heap.size w 71 (u8s (stL s e v bid))) := by
  have c0 : Hid (∀ j u, (u8s bid)[j]? = some u → (w.alloc (.cells (u8s bid).toArray 30)).cell? ⟨w.heap.size, j, none⟩ = some u) := fun j u hj => by
    have := new_cell w (u8s bid) 30 w.heap.size rfl hj
    rwa [add_at, Nat.zero_add] at this
  have b0 : Hid (Below w.heap.size w (w.alloc (.cells (u8s bid).toArray 30)) ∧ w.heap.size < (w.alloc (.cells (u8s bid).toArray 30)).heap.size) := ⟨(Below.refl _ _).alloc (Nat.le_refl _) _, by simp⟩
  go_enter Yba.func36, Yba.ntmps36
  go_wp2_with fail
  generalize hW : (World.alloc w (Obj.cells (u8s bid).toArray 30)) = W at c0 b0 ⊢
  clear hW
  refine Rt.regionL (fun _ => True) [some (.int .i64 s), some (.int .i64 e), some (.int .i64 v), none, none, some (.slice (some ⟨w.heap.size, 0, none⟩) 32 32)] 4
    (by kernel_rfl) (by kernel_rfl) (by kernel_rfl) (by kernel_rfl) (by kernel_rfl) trivial ?_ ?_
  · refine Rt.yc (Rt.y_move (by kernel_rfl) rfl (by kernel_rfl)) ?_
    refine Rt.yc (Rt.y_move (by kernel_rfl) rfl (by kernel_rfl)) ?_
    refine Rt.yc (Rt.y_move (by kernel_rfl) rfl (by kernel_rfl)) ?_
    refine Rt.yn ?_
    refine Rt.yn ?_
    refine Rt.yc (y_slice (.pointer (some ⟨w.heap.size, 0, none⟩)) (by kernel_rfl) rfl (by kernel_rfl) (slice30 _)) ?_
    exact Rt.ye
  refine Rt.oneL 3 (by kernel_rfl) rfl (by kernel_rfl) ?_
  refine Rt.wp_buildSlice (vs := #[(0, .int .i64 s), (1, .int .i64 e), (2, .int .i64 v)]) rfl (by kernel_rfl) (build60 s e v W.drew) ?_
  refine ⟨trivial, ?_⟩
  have b1 : Below W.heap.size W (W.drew.alloc (.cells #[.int .i64 s, .int .i64 e, .int .i64 v] 3)) := ((Below.refl _ W).drew).alloc (Nat.le_refl _) _
  have hlt : W.heap.size < (W.drew.alloc (.cells #[.int .i64 s, .int .i64 e, .int .i64 v] 3)).heap.size := by simp
  have q0 : (W.drew.alloc (.cells #[.int .i64 s, .int .i64 e, .int .i64 v] 3)).cell? ⟨W.heap.size, 0, none⟩ = some (.int .i64 s) := by simp [go_sem]
  have q1 : (W.drew.alloc (.cells #[.int .i64 s, .int .i64 e, .int .i64 v] 3)).cell? ⟨W.heap.size, 1, none⟩ = some (.int .i64 e) := by simp [go_sem]
  have q2 : (W.drew.alloc (.cells #[.int .i64 s, .int .i64 e, .int .i64 v] 3)).cell? ⟨W.heap.size, 2, none⟩ = some (.int .i64 v) := by simp [go_sem]
  generalize hX : (W.drew.alloc (.cells #[.int .i64 s, .int .i64 e, .int .i64 v] 3)) = X at b1 hlt q0 q1 q2 ⊢
  clear hX
  refine Rt.oneL 4 (by kernel_rfl) rfl (by kernel_rfl) ?_
  with_reducible refine Rt.wp_call (vs := #[.string nameS, .slice (some ⟨W.heap.size, 0, none⟩) 3 3]) rfl ?_ (Yba.call47 _) ?_
  · kernel_rfl
  refine (stmt47 W.heap.size s e v X hlt q0 q1 q2).mono ?_
  rintro x w1 ⟨v1, rfl, ho1, hb1⟩
  refine ⟨_, rfl, trivial, ?_⟩
  have bx : Below W.heap.size W w1 := b1.trans (hb1.mono b1.size)
  obtain ⟨p1, c1, rfl⟩ := owns_shape ho1
  obtain ⟨p5, c5, w5, hap, ho, hb⟩ := app5 ho1 hb1.size (by decide) 37 ⟨w.heap.size, 0, none⟩ 32 32 bid hl (by decide) (fun j u hj => by
    rw [add_at, Nat.zero_add, bx.cell (p := ⟨w.heap.size, j, none⟩) b0.out.2]
    exact c0.out j u hj)
  refine Rt.oneL 6 (by kernel_rfl) rfl (by kernel_rfl) ?_
  refine wp_append (.tmp 13) (.tmp 14) 37 37 37 rfl rfl (by kernel_rfl) (by kernel_rfl) hap ?_
  refine ⟨trivial, ?_⟩
  refine Rt.moreL [none, none, none, none, none, none, none, some (.slice p5 71 c5)] 0 (by kernel_rfl) (by kernel_rfl) (by kernel_rfl) (by kernel_rfl) trivial ?_ ?_
  · refine Rt.yn (Rt.yn (Rt.yn (Rt.yn (Rt.yn (Rt.yn (Rt.yn ?_))))))
    refine Rt.yc (Rt.y_assign (by kernel_rfl) rfl (by kernel_rfl)) ?_
    exact Rt.ye
  with_reducible refine Rt.done ?_ ?_ 0
  · kernel_rfl
  simp only [Rt.putL, Act.put, List.setIfInBounds_toArray, List.set_cons_succ, List.set_cons_zero]
  go_wp2
  go_ret
  refine ⟨_, rfl, ?_, b0.out.1.trans ((bx.mono (Nat.le_of_lt b0.out.2)).trans (hb.mono (by have := b0.out.2; have := b1.size; omega)))⟩
  have e1 : u8s (nameL ++ [0]) ++ u8s (be8 (s % 18446744073709551616)) ++ u8s (be8 (e % 18446744073709551616)) ++ u8s (be8 (v % 18446744073709551616)) ++ u8s bid = u8s (stL s e v bid) := by simp [stL, u8s]
  rw [e1] at ho
  exact ⟨ho.1, ho.2.elim .inl (fun ⟨g, cap, cur, hv, hb, r⟩ => .inr ⟨g, cap, cur, hv, by have := b0.out.2; have := b1.size; omega, r⟩)⟩

theorem inf30 {bid : List Int} (hl : bid.length = 32) : (Yba.prog.info? 30).map (·.size) = some (u8s bid).length := by
  have h : (Yba.prog.info? 30).map (·.size) = some 32 := by kernel_rfl
  rw [h]; simp [u8s, hl]

/-- a vote's numbers and block, in memory -/
def VoteAt (mb : Nat) (s e v : Int) (bid : List Int) (w : World) : Prop := w.cell? ⟨mb, 0, none⟩ = some (.int .i64 s) ∧ w.cell? ⟨mb, 1, none⟩ = some (.int .i64 e) ∧ w.cell? ⟨mb, 2, none⟩ = some (.int .i64 v) ∧ w.rangeAt mb 3 (u8s bid)

set_option maxRecDepth 100000 in
set_option maxHeartbeats 1600000 in
theorem vote_says (mb : Nat) (s e v : Int) (bid : List Int) (hl : bid.length = 32) (w : World) (h : VoteAt mb s e v bid w) :
    Calls Yba.prog 25 #[.pointer (some ⟨mb, 0, none⟩)] w (OwnP w.heap.size w 71 (u8s (stL s e v bid))) := by
  have hh : Hid (VoteAt mb s e v bid w.drew) := ⟨h.1, h.2.1, h.2.2.1, fun j u hj => h.2.2.2 j u hj⟩
  clear h
  go_enter Yba.func25, Yba.ntmps25
  go_wp2_with fail
  refine Rt.regionL (VoteAt mb s e v bid) [some (.pointer (some ⟨mb, 0, none⟩)), some (.pointer (some ⟨mb, 0, none⟩)), some (.pointer (some ⟨mb, 0, none⟩)), some (.int .i64 s), some (.pointer (some ⟨mb, 0, none⟩)), some (.pointer (some ⟨mb, 0, none⟩)), some (.pointer (some ⟨mb, 1, none⟩)), some (.int .i64 e), some (.pointer (some ⟨mb, 0, none⟩)), some (.pointer (some ⟨mb, 0, none⟩)), some (.pointer (some ⟨mb, 2, none⟩)), some (.int .i64 v), some (.pointer (some ⟨mb, 0, none⟩)), some (.pointer (some ⟨mb, 0, none⟩)), some (.pointer (some ⟨mb, 3, none⟩)), some (.agg (u8s bid).toArray)] 2
    (by kernel_rfl) (by kernel_rfl) (by kernel_rfl) (by kernel_rfl) (by kernel_rfl) hh.out ?_ ?_
  · skip
    refine Rt.yc (Rt.y_move (by kernel_rfl) rfl (by kernel_rfl)) ?_
    refine Rt.yc (Rt.y_nil (by kernel_rfl) rfl (by kernel_rfl)) ?_
    refine Rt.yc (Rt.y_field 0 0 (by kernel_rfl) rfl (by kernel_rfl) Yba.underlying112 rfl (by kernel_rfl) rfl) ?_
    refine Rt.yc (Rt.y_load mb 0 (by kernel_rfl) rfl (by kernel_rfl) Yba.isAgg3 (fun w h => h.1)) ?_
    refine Rt.yc (Rt.y_move (by kernel_rfl) rfl (by kernel_rfl)) ?_
    refine Rt.yc (Rt.y_nil (by kernel_rfl) rfl (by kernel_rfl)) ?_
    refine Rt.yc (Rt.y_field 0 0 (by kernel_rfl) rfl (by kernel_rfl) Yba.underlying112 rfl (by kernel_rfl) rfl) ?_
    refine Rt.yc (Rt.y_load mb 1 (by kernel_rfl) rfl (by kernel_rfl) Yba.isAgg3 (fun w h => h.2.1)) ?_
    refine Rt.yc (Rt.y_move (by kernel_rfl) rfl (by kernel_rfl)) ?_
    refine Rt.yc (Rt.y_nil (by kernel_rfl) rfl (by kernel_rfl)) ?_
    refine Rt.yc (Rt.y_field 0 0 (by kernel_rfl) rfl (by kernel_rfl) Yba.underlying112 rfl (by kernel_rfl) rfl) ?_
    refine Rt.yc (Rt.y_load mb 2 (by kernel_rfl) rfl (by kernel_rfl) Yba.isAgg3 (fun w h => h.2.2.1)) ?_
    refine Rt.yc (Rt.y_move (by kernel_rfl) rfl (by kernel_rfl)) ?_
    refine Rt.yc (Rt.y_nil (by kernel_rfl) rfl (by kernel_rfl)) ?_
    refine Rt.yc (Rt.y_field 31 0 (by kernel_rfl) rfl (by kernel_rfl) Yba.underlying112 rfl (by kernel_rfl) rfl) ?_
    refine Rt.yc (Rt.y_loadm mb 3 (by kernel_rfl) rfl (by kernel_rfl) (fun w h => h.2.2.2) Yba.underlying30 rfl (inf30 hl)) ?_
    exact Rt.ye
  refine Rt.oneL 16 (by kernel_rfl) rfl (by kernel_rfl) ?_
  with_reducible refine Rt.wp_call (vs := #[.int .i64 s, .int .i64 e, .int .i64 v, .agg (u8s bid).toArray]) rfl ?_ (Yba.call36 _) ?_
  · kernel_rfl
  refine (voteSays s e v bid hl w.drew).mono ?_
  rintro x w1 ⟨v1, rfl, ho1, hb1⟩
  obtain ⟨p1, c1, rfl⟩ := owns_shape ho1
  have hh1 : VoteAt mb s e v bid w1 := by
    have hb : ∀ {i : Nat} {u : Value}, w.drew.cell? ⟨mb, i, none⟩ = some u → w1.cell? ⟨mb, i, none⟩ = some u := fun {i u} hu => (hb1.cell (p := ⟨mb, i, none⟩) (World.block_lt_of_cell? w.drew ⟨mb, i, none⟩ hu)).trans hu
    exact ⟨hb hh.out.1, hb hh.out.2.1, hb hh.out.2.2.1, fun j u hj => hb (hh.out.2.2.2 j u hj)⟩
  refine ⟨_, rfl, hh1, ?_⟩
  refine Rt.moreL [none, none, none, none, none, none, none, none, none, none, none, none, none, none, none, none, none, some (.slice p1 71 c1)] 0 (by kernel_rfl) (by kernel_rfl) (by kernel_rfl) (by kernel_rfl) hh1 ?_ ?_
  · refine Rt.yn (Rt.yn (Rt.yn (Rt.yn (Rt.yn (Rt.yn (Rt.yn (Rt.yn (Rt.yn (Rt.yn (Rt.yn (Rt.yn (Rt.yn (Rt.yn (Rt.yn (Rt.yn (Rt.yn ?_))))))))))))))))
    refine Rt.yc (Rt.y_assign (by kernel_rfl) rfl (by kernel_rfl)) ?_
    exact Rt.ye
  with_reducible refine Rt.done ?_ ?_ 0
  · kernel_rfl
  simp only [Rt.putL, Act.put, List.setIfInBounds_toArray, List.set_cons_succ, List.set_cons_zero]
  go_wp2
  go_ret
  exact ⟨_, rfl, ho1, (Below.refl _ w).drew.trans hb1⟩

/-- a QC's cells -/
def qcL (s e v : Int) (bid : List Int) (sg : Value) : List Value := .int .i64 s :: .int .i64 e :: .int .i64 v :: (u8s bid ++ [sg])
theorem qc_bid (s e v : Int) (bid : List Int) (sg : Value) (w : World) (b : Nat) (h : w.rangeAt b 0 (qcL s e v bid sg)) : w.rangeAt b 3 (u8s bid) := fun j u hj => by
  have hl := (List.getElem?_eq_some_iff.1 hj).1
  have := h (3 + j) u (by
    unfold qcL
    rw [show 3 + j = j + 1 + 1 + 1 by omega]
    simp only [List.getElem?_cons_succ]
    rw [List.getElem?_append_left hl]
    exact hj)
  rwa [Nat.zero_add] at this

set_option maxRecDepth 100000 in
set_option maxHeartbeats 1600000 in
theorem qc_says (s e v : Int) (bid : List Int) (sg : Value) (hl : bid.length = 32) (w : World) :
    Calls Yba.prog 30 #[.agg (qcL s e v bid sg).toArray] w (OwnP w.heap.size w 71 (u8s (stL s e v bid))) := by
  have hr : Hid ((w.alloc (.cells (qcL s e v bid sg).toArray 32)).rangeAt w.heap.size 0 (qcL s e v bid sg)) := fun j u hj => by
    have := new_cell w (qcL s e v bid sg) 32 w.heap.size rfl hj
    rwa [add_at] at this
  have b1 : Hid (Below w.heap.size w (w.alloc (.cells (qcL s e v bid sg).toArray 32))) := (Below.refl _ _).alloc (Nat.le_refl _) _
  go_enter Yba.func30, Yba.ntmps30
  go_upto_region 1 with fail
  generalize hW : (World.alloc w (Obj.cells (qcL s e v bid sg).toArray 32)) = W at hr b1 ⊢
  clear hW
  have c0 := hr.out 0 _ rfl
  have c1 := hr.out 1 _ rfl
  have c2 := hr.out 2 _ rfl
  have c3 : Hid (W.rangeAt w.heap.size 3 (u8s bid)) := qc_bid s e v bid sg W w.heap.size hr.out
  simp only [Nat.zero_add] at c0 c1 c2
  go_wp2_with first
    | ((with_reducible refine wpList_load_mid rfl 30 (.tmp 9) rfl w.heap.size 3 ?_ (u8s bid) _ ?_ Yba.underlying30 ?_ ?_ ?_); (exact rfl); (exact c3.out); (exact rfl); (exact inf30 hl))
    | (go_at_call 36; refine (voteSays s e v bid hl W).mono ?_; rintro x w1 ⟨v1, rfl, ho1, hb1⟩)
  go_ret
  exact ⟨_, rfl, ⟨ho1.1, ho1.2.elim .inl (fun ⟨g, cap, cur, hv, hb, r⟩ => .inr ⟨g, cap, cur, hv, Nat.le_trans b1.out.size hb, r⟩)⟩, b1.out.trans (hb1.mono b1.out.size)⟩
end Go.Proofs.Ybulkcsck.Ga
