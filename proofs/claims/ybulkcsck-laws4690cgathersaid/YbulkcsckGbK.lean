/-
  OWN TEXT. LawS4690CGather: the checks at the end: one certificate
-/
import Derived.Test.YbulkcsckGbJ
import Derived.LaidEqlPtr
set_option linter.unusedSimpArgs false
set_option linter.unusedVariables false
namespace Go.Proofs.Ybulkcsck.Ga
open Go.RowKit

theorem wp_store_new' {P : Program} {Q : Exit → Act → World → Prop} {o : Oper} {a : Act} {t : TypeId} {x y : Operand} {z : Array Value} {cs : List Value} {w : World} {K : Act → World → Prop} (ho : o.op = .store t x y) (hx : a.eval x = .pointer (some ⟨w.heap.size, 0, none⟩)) (hy : a.eval y = .agg cs.toArray)
    (hi : (P.info? t).map (·.size) = some cs.length) (hz : z.size = cs.length) (h1 : ∀ v ∈ cs, v.oneCell' = true) (h : K (a.put o.dst undef) (w.alloc (.cells cs.toArray t))) : o.wp P a (w.alloc (.cells z t)) K Q := by
  have hr := run_storeAt_new (P := P) w t z cs.toArray (by simpa using hi) (by simpa using hz) (all_oneCell_toArray h1)
  unfold Oper.wp execOp
  simp only [ho, hx, hy, Sem.run_bind]
  simp only [hr, Result.andThen_ok, Sem.run_pure]
  exact h
theorem wpList_store_new {P : Program} {ops : Array Oper} {rest : List Oper} {o : Oper} {a : Act} {Q : Exit → Act → World → Prop} {t : TypeId} {x y : Operand} {z : Array Value} {cs : List Value} {w : World} (hgd : o.guard = none) (ho : o.op = .store t x y) (hx : a.eval x = .pointer (some ⟨w.heap.size, 0, none⟩)) (hy : a.eval y = .agg cs.toArray)
    (hi : (P.info? t).map (·.size) = some cs.length) (hz : z.size = cs.length) (h1 : ∀ v ∈ cs, v.oneCell' = true) (h : wpList P ops Q rest (a.put o.dst undef) (w.alloc (.cells cs.toArray t))) : wpList P ops Q (o :: rest) a (w.alloc (.cells z t)) :=
  wpList_plain hgd fun _ hK => wp_store_new' ho hx hy hi hz h1 (hK _ _ h)
theorem wpList_alloc {P : Program} {ops : Array Oper} {rest : List Oper} {o : Oper} {a : Act} {Q : Exit → Act → World → Prop} {t : TypeId} {v : Value} {w w' : World} (hgd : o.guard = none) (ho : o.op = .alloc t) (hr : (Instr.alloc t true (.tuple #[])).run P w = .ok v w') (h : wpList P ops Q rest (a.put o.dst v) w') : wpList P ops Q (o :: rest) a w :=
  wpList_plain hgd fun _ hK => wp_alloc ho hr (hK _ _ h)
theorem neq42 (p : Addr) (w : World) : (binOp .neq 42 (.pointer (some p)) (.pointer (some p))).run Yba.prog w = .ok (.bool false) w := by
  have h : ∀ d : Nat, (Op.equalIn (d + 1) 42 (.pointer (some p)) (.pointer (some p))).run Yba.prog w = .ok true w := fun d => by
    have hi : Yba.prog.info? 44 = some Yba.t44 := by kernel_rfl
    simp [Op.equalIn, run_underlying Yba.underlying42, sizeOf, typeInfo, hi, run_sameAddr_same]
  simp only [binOp]
  simp [Op.equal, Op.maxDepth, h 9999]
theorem neq117 (p : Addr) (w : World) : (binOp .neq 117 (.iface 120 (.pointer (some p))) (.iface 120 (.pointer (some p)))).run Yba.prog w = .ok (.bool false) w := by
  have h : ∀ d : Nat, (Op.equalIn (d + 2) 117 (.iface 120 (.pointer (some p))) (.iface 120 (.pointer (some p)))).run Yba.prog w = .ok true w := fun d =>
    run_equalIn_iface_ptr_same w d p Yba.underlying117 Yba.underlying120 (i := Yba.t120) (j := Yba.t123) (by kernel_rfl) (by kernel_rfl) (by kernel_rfl)
  simp only [binOp]
  simp [Op.equal, Op.maxDepth, h 9998]
theorem inf32 {l : List Value} (h : l.length = 36) : (Yba.prog.info? 32).map (·.size) = some l.length := by rw [h]; kernel_rfl
/-- a load of many cells -/
theorem qload {P : Program} {ops : Array Oper} {o : Oper} {rest : List Oper} {a : Act} {w : World} {Q : Act → Prop} {d : Nat} {ty : TypeId} {x : Operand} {ds : TypeDesc} (hd : o.dst = some d) (hw : Region.wanted o (yielded ops a.tmps) = true) (ho : o.op = .load ty x) (b o' : Nat) (cs : List Value) (hx : a.eval x = .pointer (some ⟨b, o', none⟩))
    (hS : w.rangeAt b o' cs) (hu : P.underlying ty = some ds) (hr : ds.isRow = true) (hi : (P.info? ty).map (·.size) = some cs.length) (h : WQ P ops w Q rest (a.put (some d) (.agg cs.toArray))) : WQ P ops w Q (o :: rest) a :=
  qv hd hw _ (fun n => by
    unfold execOp
    have hS' : (w.drewN n).rangeAt b o' cs := hS
    simp only [ho, hx, Instr.loadAt, Instr.sureAddr, Sem.run_bind, Sem.run_pure, Result.andThen_ok, run_loadVar_mid (w.drewN n) b o' ty cs ds hS' hu hr hi]) h
theorem qbin {P : Program} {ops : Array Oper} {o : Oper} {rest : List Oper} {a : Act} {w : World} {Q : Act → Prop} {d : Nat} {op : BinOp} {t t' : TypeId} {x y : Operand} (hd : o.dst = some d) (hw : Region.wanted o (yielded ops a.tmps) = true) (ho : o.op = .binOp op t x y t') (v : Value)
    (hb : ∀ w, (do eqGuard op t x y (a.eval x) (a.eval y); binOp op t (a.eval x) (a.eval y) : Sem Value).run P w = .ok v w) (h : WQ P ops w Q rest (a.put (some d) v)) : WQ P ops w Q (o :: rest) a :=
  qv hd hw v (fun n => by
    unfold execOp
    simp only [ho]
    rw [Sem.run_bind, hb (w.drewN n)]; rfl) h

set_option maxRecDepth 100000 in
set_option maxHeartbeats 1600000 in
theorem e100 (Q : Exit → Act → World → Prop) (a : Act) (L : Lw) (w : World) (qp : Nat) (h50 : a.tmps[50]? = some (.pointer (some ⟨qp, 0, none⟩))) (h51 : a.tmps[51]? = some (.bool true)) (hp : L.cf.pb = none ∨ ∃ bb, L.cf.pb = some ⟨bb, 0, none⟩) (c6 : w.cell? ⟨qp, 36, none⟩ = some (.pointer L.cf.pb)) (F : Fr a L)
    (k : ∀ a', Fr a' L → Same [34, 35, 36, 37, 48, 50] a a' → Q .normal a' w) : (nth 3 B15).wp Yba.prog Q a w := by
  simp only [L10, L12, L14, L16, B15, nth, c6, Yba.f6, Option.getD, nB, cA, cB, cIn]
  have hs := F.sz
  obtain ⟨p24, h24⟩ := sl F.s24
  obtain ⟨p50, h50'⟩ := sl h50
  obtain ⟨p51, h51'⟩ := sl h51
  have FF : Hid (Fr a L) := F
  have K : Hid _ := k
  clear k F
  rcases hp with hp | ⟨bb, hp⟩
  · rw [hp] at h24 c6
    refine wp_seq_k fun KK hKK => ?_
    have HK : Hid _ := hKK
    clear hKK
    go_wp2
    refine HK.out _ _ ?_
    clear HK KK
    refine wp_cond_false (by simp [Act.eval, Act.put, hs]) ?_
    refine wp_skip ?_
    refine K.out _ ?_ ?_ 
    · (repeat (refine Fr.set ?_ _ _ (by decide)))
      exact FF.out
    · (repeat (refine Same.set ?_ _ _ (by decide)))
      exact Same.refl _ _
  · rw [hp] at h24 c6
    have hz := neq42 ⟨bb, 0, none⟩ w
    refine wp_seq_k fun KK hKK => ?_
    have HK : Hid _ := hKK
    clear hKK
    go_wp2
    refine HK.out _ _ ?_
    clear HK KK
    refine wp_cond_false (by simp [Act.eval, Act.put, hs]) ?_
    refine wp_skip ?_
    refine K.out _ ?_ ?_ 
    · (repeat (refine Fr.set ?_ _ _ (by decide)))
      exact FF.out
    · (repeat (refine Same.set ?_ _ _ (by decide)))
      exact Same.refl _ _
set_option maxRecDepth 100000 in
set_option maxHeartbeats 1600000 in
theorem e102 (Q : Exit → Act → World → Prop) (a : Act) (L : Lw) (w : World) (qp : Nat) (cs : List Value) (hl : cs.length = 36) (h1 : ∀ v ∈ cs, v.oneCell' = true) (h50 : a.tmps[50]? = some (.pointer (some ⟨qp, 0, none⟩))) (hr : w.rangeAt qp 0 cs) (F : Fr a L)
    (k : ∀ a', Fr a' L → Same [34, 35, 36, 37, 48, 50] a a' → a'.tmps[52]? = some (.pointer (some ⟨w.heap.size, 0, none⟩)) → Q .normal a' (w.alloc (.cells cs.toArray 32))) : (nth 4 B15).wp Yba.prog Q a w := by
  simp only [L10, L12, L14, L16, B15, nth, c6, Yba.f6, Option.getD, nB, cA, cB, cIn]
  have hs := F.sz
  obtain ⟨p50, h50'⟩ := sl h50
  have FF : Hid (Fr a L) := F
  have K : Hid _ := k
  clear k F
  have HR : Hid (w.rangeAt qp 0 cs) := hr
  have HI : Hid ((Yba.prog.info? 32).map (·.size) = some cs.length) := inf32 hl
  obtain ⟨Z, hZ, AL⟩ := alloc32
  clear hr
  refine wp_region_lit ?_
  iterate 3 (refine wpList_val rfl _ (by simp [go_sem, execOp, Act.eval, Act.put, hs, h50']; first | done | rfl) ?_)
  refine wpList_load_mid rfl 32 (.tmp 462) rfl qp 0 (by simp [Act.eval, Act.put, hs]) cs _ HR.out Yba.underlying32 rfl HI.out ?_
  refine wpList_alloc rfl rfl (AL w) ?_
  refine wpList_store_new (cs := cs) rfl rfl (by simp [Act.eval, Act.put, hs]) (by simp [Act.eval, Act.put, hs]) HI.out (by simp [hZ, hl]) h1 ?_
  refine wpList_nil ?_
  simp only [Act.put]
  refine K.out _ ?_ ?_ (by simp [hs])
  · (repeat (refine Fr.set ?_ _ _ (by decide)))
    exact FF.out
  · (repeat (refine Same.set ?_ _ _ (by decide)))
    exact Same.refl _ _
set_option maxRecDepth 100000 in
set_option maxHeartbeats 1600000 in
theorem e103 (Q : Exit → Act → World → Prop) (a : Act) (L : Lw) (w : World) (qb i N st g c : Nat) (h52 : a.tmps[52]? = some (.pointer (some ⟨qb, 0, none⟩))) (h48 : a.tmps[48]? = some (.int .i64 (i : Nat))) (h36 : a.tmps[36]? = some (.slice (some ⟨g, 0, none⟩) N c)) (hi : i < N) (c0 : w.cell? ⟨qb, 0, none⟩ = some (.int .i64 (st : Nat))) (cg : w.cell? ⟨g, i, none⟩ = some (.int .i64 (st : Nat))) (c1 : w.cell? ⟨qb, 1, none⟩ = some (.int .i64 L.ep)) (c2 : w.cell? ⟨qb, 2, none⟩ = some (.int .i64 L.cf.vw)) (c3 : w.rangeAt qb 3 (u8s L.bid)) (cb : w.rangeAt L.bb 0 (u8s L.bid)) (hbl : L.bid.length = 32) (F : Fr a L)
    (k : ∀ a' n, Fr a' L → Same [34, 35, 36, 37, 48, 50, 52] a a' → Q .normal a' (w.drewN n)) : (nth 5 B15).wp Yba.prog Q a w := by
  simp only [L10, L12, L14, L16, B15, nth, c6, Yba.f6, Option.getD, nB, cA, cB, cIn]
  have hs := F.sz
  have v5 := ev_of F.s5
  have v6 := ev_of F.s6
  have v23 := ev_of F.s23
  have v36 := ev_of h36
  have v48 := ev_of h48
  have v52 := ev_of h52
  have FF : Hid (Fr a L) := F
  have K : Hid _ := k
  clear k F
  have H3 : Hid (w.rangeAt qb 3 (u8s L.bid)) := c3
  have HB : Hid (w.rangeAt L.bb 0 (u8s L.bid)) := cb
  have HI : Hid ((Yba.prog.info? 30).map (·.size) = some (u8s L.bid).length) := inf30 hbl
  clear c3 cb
  refine wp_seq ?_
  refine q_region (by kernel_rfl) (by kernel_rfl) ?_
  iterate 6 (refine qv rfl (Rt.wn rfl) _ (fun n => by simp only [execOp, List.map_toArray, List.map_cons, List.map_nil, ev_same, ev_ne, ev_c, sz_put, hs, ne_eq, Nat.reduceEqDiff, not_false_eq_true, Nat.reduceLT, v52, v36, v48]; simp [go_sem, c0, cg, hi]; first | done | rfl) ?_)
  refine qv rfl (Rt.wn rfl) (.bool false) (fun n => by simp only [execOp, List.map_toArray, List.map_cons, List.map_nil, ev_same, ev_ne, ev_c, sz_put, hs, ne_eq, Nat.reduceEqDiff, not_false_eq_true, Nat.reduceLT, v52]; first | done | (simp [go_sem]; done) | rfl) ?_
  refine qv rfl (Rt.wn rfl) (.bool false) (fun n => by simp only [execOp, List.map_toArray, List.map_cons, List.map_nil, ev_same, ev_ne, ev_c, sz_put, hs, ne_eq, Nat.reduceEqDiff, not_false_eq_true, Nat.reduceLT, v52]; first | done | (simp [go_sem]; done) | rfl) ?_
  iterate 3 (refine qv rfl (wg 7 false rfl 471 rfl (by simp [ev_same, ev_ne, sz_put, hs]; done)) _ (fun n => by simp only [execOp, List.map_toArray, List.map_cons, List.map_nil, ev_same, ev_ne, ev_c, sz_put, hs, ne_eq, Nat.reduceEqDiff, not_false_eq_true, Nat.reduceLT, v52, v5]; simp [go_sem, c1]; first | done | rfl) ?_)
  refine qv rfl (wg 7 false rfl 471 rfl (by simp [ev_same, ev_ne, sz_put, hs]; done)) (.bool false) (fun n => by simp only [execOp, List.map_toArray, List.map_cons, List.map_nil, ev_same, ev_ne, ev_c, sz_put, hs, ne_eq, Nat.reduceEqDiff, not_false_eq_true, Nat.reduceLT, v52]; first | done | (simp [go_sem]; done) | rfl) ?_
  refine qv rfl (Rt.wn rfl) (.bool false) (fun n => by simp only [execOp, List.map_toArray, List.map_cons, List.map_nil, ev_same, ev_ne, ev_c, sz_put, hs, ne_eq, Nat.reduceEqDiff, not_false_eq_true, Nat.reduceLT, v52]; first | done | (simp [go_sem]; done) | rfl) ?_
  refine qv rfl (Rt.wn rfl) (.bool false) (fun n => by simp only [execOp, List.map_toArray, List.map_cons, List.map_nil, ev_same, ev_ne, ev_c, sz_put, hs, ne_eq, Nat.reduceEqDiff, not_false_eq_true, Nat.reduceLT, v52]; first | done | (simp [go_sem]; done) | rfl) ?_
  iterate 3 (refine qv rfl (wg 13 false rfl 477 rfl (by simp [ev_same, ev_ne, sz_put, hs]; done)) _ (fun n => by simp only [execOp, List.map_toArray, List.map_cons, List.map_nil, ev_same, ev_ne, ev_c, sz_put, hs, ne_eq, Nat.reduceEqDiff, not_false_eq_true, Nat.reduceLT, v52, v6]; simp [go_sem, c2]; first | done | rfl) ?_)
  refine qv rfl (wg 13 false rfl 477 rfl (by simp [ev_same, ev_ne, sz_put, hs]; done)) (.bool false) (fun n => by simp only [execOp, List.map_toArray, List.map_cons, List.map_nil, ev_same, ev_ne, ev_c, sz_put, hs, ne_eq, Nat.reduceEqDiff, not_false_eq_true, Nat.reduceLT, v52]; first | done | (simp [go_sem]; done) | rfl) ?_
  refine qv rfl (Rt.wn rfl) (.bool false) (fun n => by simp only [execOp, List.map_toArray, List.map_cons, List.map_nil, ev_same, ev_ne, ev_c, sz_put, hs, ne_eq, Nat.reduceEqDiff, not_false_eq_true, Nat.reduceLT, v52]; first | done | (simp [go_sem]; done) | rfl) ?_
  refine qv rfl (Rt.wn rfl) (.bool false) (fun n => by simp only [execOp, List.map_toArray, List.map_cons, List.map_nil, ev_same, ev_ne, ev_c, sz_put, hs, ne_eq, Nat.reduceEqDiff, not_false_eq_true, Nat.reduceLT, v52]; first | done | (simp [go_sem]; done) | rfl) ?_
  refine qv rfl (wg 19 false rfl 483 rfl (by simp [ev_same, ev_ne, sz_put, hs]; done)) _ (fun n => by simp only [execOp, List.map_toArray, List.map_cons, List.map_nil, ev_same, ev_ne, ev_c, sz_put, hs, ne_eq, Nat.reduceEqDiff, not_false_eq_true, Nat.reduceLT, v52]; simp [go_sem]; first | done | rfl) ?_
  refine qload rfl (wg 19 false rfl 483 rfl (by simp [ev_same, ev_ne, sz_put, hs]; done)) rfl qb 3 (u8s L.bid) (by simp [ev_same, ev_ne, sz_put, hs,  v52]) H3.out Yba.underlying30 rfl HI.out ?_
  refine qload rfl (wg 19 false rfl 483 rfl (by simp [ev_same, ev_ne, sz_put, hs]; done)) rfl L.bb 0 (u8s L.bid) (by simp [ev_same, ev_ne, sz_put, hs,  v23]) HB.out Yba.underlying30 rfl HI.out ?_
  refine qbin rfl (wg 19 false rfl 483 rfl (by simp [ev_same, ev_ne, sz_put, hs]; done)) rfl (.bool false) (fun w => neqB L.bid L.bid hbl hbl false (by simp) w (by simp [ev_same, ev_ne, sz_put, hs,  v52]) (by simp [ev_same, ev_ne, sz_put, hs,  v52])) ?_
  refine qv rfl (Rt.wn rfl) (.bool false) (fun n => by simp only [execOp, List.map_toArray, List.map_cons, List.map_nil, ev_same, ev_ne, ev_c, sz_put, hs, ne_eq, Nat.reduceEqDiff, not_false_eq_true, Nat.reduceLT, v52]; first | done | (simp [go_sem]; done) | rfl) ?_
  refine q_nil ?_
  rintro w' ⟨n, rfl⟩
  simp only [Exit.then, Act.put]
  refine wp_cond_false (by simp [Act.eval, Act.put, hs]) ?_
  refine wp_skip ?_
  refine K.out _ n ?_ ?_ 
  · (repeat (refine Fr.set ?_ _ _ (by decide)))
    exact FF.out
  · (repeat (refine Same.set ?_ _ _ (by decide)))
    exact Same.refl _ _
set_option maxRecDepth 100000 in
set_option maxHeartbeats 1600000 in
theorem e105 (Q : Exit → Act → World → Prop) (a : Act) (L : Lw) (w : World) (qb i N g c m : Nat) (p p' : Option Addr) (cc c' : Nat) (h52 : a.tmps[52]? = some (.pointer (some ⟨qb, 0, none⟩))) (h48 : a.tmps[48]? = some (.int .i64 (i : Nat))) (h37 : a.tmps[37]? = some (.slice (some ⟨g, 0, none⟩) N c)) (hi : i < N) (c5 : w.cell? ⟨qb, 35, none⟩ = some (.slice p m cc)) (cg : w.cell? ⟨g, i, none⟩ = some (.slice p' m c')) (F : Fr a L)
    (k : ∀ a' n, Fr a' L → Same [34, 35, 36, 37, 48, 50, 52] a a' → Q .normal a' (w.drewN n)) : (nth 6 B15).wp Yba.prog Q a w := by
  simp only [L10, L12, L14, L16, B15, nth, c6, Yba.f6, Option.getD, nB, cA, cB, cIn]
  have hs := F.sz
  have v37 := ev_of h37
  have v48 := ev_of h48
  have v52 := ev_of h52
  have FF : Hid (Fr a L) := F
  have K : Hid _ := k
  clear k F
  refine wp_seq ?_
  refine q_region (by kernel_rfl) (by kernel_rfl) ?_
  iterate 8 (refine qv rfl (Rt.wn rfl) _ (fun n => by simp only [execOp, List.map_toArray, List.map_cons, List.map_nil, ev_same, ev_ne, ev_c, sz_put, hs, ne_eq, Nat.reduceEqDiff, not_false_eq_true, Nat.reduceLT, v52, v37, v48]; simp [go_sem, c5, cg, hi, hs]; first | done | rfl) ?_)
  refine qv rfl (Rt.wn rfl) (.bool false) (fun n => by simp only [execOp, List.map_toArray, List.map_cons, List.map_nil, ev_same, ev_ne, ev_c, sz_put, hs, ne_eq, Nat.reduceEqDiff, not_false_eq_true, Nat.reduceLT, v52]; first | done | (simp [go_sem]; done) | rfl) ?_
  refine q_nil ?_
  rintro w' ⟨n, rfl⟩
  simp only [Exit.then, Act.put]
  refine wp_cond_false (by simp [Act.eval, Act.put, hs]) ?_
  refine wp_skip ?_
  refine K.out _ n ?_ ?_ 
  · (repeat (refine Fr.set ?_ _ _ (by decide)))
    exact FF.out
  · (repeat (refine Same.set ?_ _ _ (by decide)))
    exact Same.refl _ _
set_option maxRecDepth 100000 in
set_option maxHeartbeats 1600000 in
theorem e107 (Q : Exit → Act → World → Prop) (a : Act) (L : Lw) (w : World)  (F : Fr a L)
    (k : ∀ a', Fr a' L → Same [34, 35, 36, 37, 48, 50, 52] a a' → a'.tmps[53]? = some (.int .i64 ((0 : Nat) : Int)) → Q .normal a' w) : (cA (nth 7 B15)).wp Yba.prog Q a w := by
  simp only [L10, L12, L14, L16, B15, nth, c6, Yba.f6, Option.getD, nB, cA, cB, cIn]
  have hs := F.sz
  have FF : Hid (Fr a L) := F
  have K : Hid _ := k
  clear k F
  go_wp2
  refine K.out _ ?_ ?_ (by simp [hs])
  · (repeat (refine Fr.set ?_ _ _ (by decide)))
    exact FF.out
  · (repeat (refine Same.set ?_ _ _ (by decide)))
    exact Same.refl _ _
set_option maxRecDepth 100000 in
set_option maxHeartbeats 1600000 in
theorem e108y (Q : Exit → Act → World → Prop) (a : Act) (L : Lw) (w : World) (x m qb : Nat) (p : Option Addr) (c : Nat) (h53 : a.tmps[53]? = some (.int .i64 (x : Nat))) (h52 : a.tmps[52]? = some (.pointer (some ⟨qb, 0, none⟩))) (c5 : w.cell? ⟨qb, 35, none⟩ = some (.slice p m c)) (hi : x < m) (F : Fr a L)
    (k : ∀ a', Fr a' L → Same [34, 35, 36, 37, 48, 50, 52, 53] a a' → Q .normal a' w) : (cA L16).wp Yba.prog Q a w := by
  simp only [L10, L12, L14, L16, B15, nth, c6, Yba.f6, Option.getD, nB, cA, cB, cIn]
  have hs := F.sz
  obtain ⟨p52, h52'⟩ := sl h52
  obtain ⟨p53, h53'⟩ := sl h53
  have FF : Hid (Fr a L) := F
  have K : Hid _ := k
  clear k F
  have d1 : decide ((x : Int) < (m : Int)) = true := decide_eq_true (by omega)
  refine wp_seq_k fun KK hKK => ?_
  have HK : Hid _ := hKK
  clear hKK
  go_wp2
  refine HK.out _ _ ?_
  clear HK KK
  refine wp_cond_true (by simp [Act.eval, Act.put, hs]) ?_
  refine wp_skip ?_
  refine K.out _ ?_ ?_ 
  · (repeat (refine Fr.set ?_ _ _ (by decide)))
    exact FF.out
  · (repeat (refine Same.set ?_ _ _ (by decide)))
    exact Same.refl _ _
set_option maxRecDepth 100000 in
set_option maxHeartbeats 1600000 in
theorem e108n (Q : Exit → Act → World → Prop) (a : Act) (L : Lw) (w : World) (x m qb : Nat) (p : Option Addr) (c : Nat) (h53 : a.tmps[53]? = some (.int .i64 (x : Nat))) (h52 : a.tmps[52]? = some (.pointer (some ⟨qb, 0, none⟩))) (c5 : w.cell? ⟨qb, 35, none⟩ = some (.slice p m c)) (hi : ¬ x < m) (F : Fr a L)
    (k : ∀ a', Fr a' L → Same [34, 35, 36, 37, 48, 50, 52, 53] a a' → Q (.exit 16) a' w) : (cA L16).wp Yba.prog Q a w := by
  simp only [L10, L12, L14, L16, B15, nth, c6, Yba.f6, Option.getD, nB, cA, cB, cIn]
  have hs := F.sz
  obtain ⟨p52, h52'⟩ := sl h52
  obtain ⟨p53, h53'⟩ := sl h53
  have FF : Hid (Fr a L) := F
  have K : Hid _ := k
  clear k F
  have d1 : decide ((x : Int) < (m : Int)) = false := decide_eq_false (by omega)
  refine wp_seq_k fun KK hKK => ?_
  have HK : Hid _ := hKK
  clear hKK
  go_wp2
  refine HK.out _ _ ?_
  clear HK KK
  refine wp_cond_false (by simp [Act.eval, Act.put, hs]) ?_
  refine wp_exit ?_
  refine K.out _ ?_ ?_ 
  · (repeat (refine Fr.set ?_ _ _ (by decide)))
    exact FF.out
  · (repeat (refine Same.set ?_ _ _ (by decide)))
    exact Same.refl _ _
set_option maxRecDepth 100000 in
set_option maxHeartbeats 1600000 in
theorem e109 (Q : Exit → Act → World → Prop) (a : Act) (L : Lw) (w : World) (i : Nat) (h53 : a.tmps[53]? = some (.int .i64 (i : Nat))) (hi : i < 9223372036854775807) (F : Fr a L)
    (k : ∀ a', Fr a' L → Same [34, 35, 36, 37, 48, 50, 52] a a' → a'.tmps[53]? = some (.int .i64 ((i + 1 : Nat) : Int)) → Q .normal a' w) : (cB (cB L16)).wp Yba.prog Q a w := by
  simp only [L10, L12, L14, L16, B15, nth, c6, Yba.f6, Option.getD, nB, cA, cB, cIn]
  have hs := F.sz
  obtain ⟨p53, h53'⟩ := sl h53
  have FF : Hid (Fr a L) := F
  have K : Hid _ := k
  clear k F
  have w1 : IntKind.i64.wrap ((i : Int) + 1) = ((i + 1 : Nat) : Int) := by simp [IntKind.wrap, IntKind.signed, IntKind.bits]; omega
  go_wp2
  refine K.out _ ?_ ?_ (by simp [hs])
  · (repeat (refine Fr.set ?_ _ _ (by decide)))
    exact FF.out
  · (repeat (refine Same.set ?_ _ _ (by decide)))
    exact Same.refl _ _
set_option maxRecDepth 100000 in
set_option maxHeartbeats 1600000 in
theorem e110 (Q : Exit → Act → World → Prop) (a : Act) (L : Lw) (w : World) (qb i N g c m x g1 g2 q1 q2 : Nat) (y : Int) (p p' : Option Addr) (n1 c1 n2 c2 : Nat) (h52 : a.tmps[52]? = some (.pointer (some ⟨qb, 0, none⟩))) (h48 : a.tmps[48]? = some (.int .i64 (i : Nat))) (h53 : a.tmps[53]? = some (.int .i64 (x : Nat))) (h37 : a.tmps[37]? = some (.slice (some ⟨g, 0, none⟩) N c)) (hi : i < N) (hx : x < m) (c5 : w.cell? ⟨qb, 35, none⟩ = some (.slice (some ⟨g1, 0, none⟩) m q1)) (cg : w.cell? ⟨g, i, none⟩ = some (.slice (some ⟨g2, 0, none⟩) m q2)) (x1 : w.cell? ⟨g1, x * 2, none⟩ = some (.int .i64 y)) (x2 : w.cell? ⟨g2, x * 2, none⟩ = some (.int .i64 y)) (x3 : w.cell? ⟨g1, x * 2 + 1, none⟩ = some (.slice p n1 c1)) (x4 : w.cell? ⟨g2, x * 2 + 1, none⟩ = some (.slice p' n2 c2)) (he : ∀ n, Calls Yba.prog 16 #[.slice p n1 c1, .slice p' n2 c2] (w.drewN n) fun e w' => e = .returned (.bool true) ∧ w' = w.drewN n) (F : Fr a L)
    (k : ∀ a' n, Fr a' L → Same [34, 35, 36, 37, 48, 50, 52, 53] a a' → Q .normal a' (w.drewN n)) : (cA (cB L16)).wp Yba.prog Q a w := by
  simp only [L10, L12, L14, L16, B15, nth, c6, Yba.f6, Option.getD, nB, cA, cB, cIn]
  have hs := F.sz
  have v37 := ev_of h37
  have v48 := ev_of h48
  have v52 := ev_of h52
  have v53 := ev_of h53
  have FF : Hid (Fr a L) := F
  have K : Hid _ := k
  clear k F
  have HE : Hid (∀ n, Calls Yba.prog 16 #[.slice p n1 c1, .slice p' n2 c2] (w.drewN n) fun e w' => e = .returned (.bool true) ∧ w' = w.drewN n) := he
  clear he
  refine wp_block ?_
  refine wp_seq ?_
  refine q_region (by kernel_rfl) (by kernel_rfl) ?_
  iterate 14 (refine qv rfl (Rt.wn rfl) _ (fun n => by simp only [execOp, List.map_toArray, List.map_cons, List.map_nil, ev_same, ev_ne, ev_c, sz_put, hs, ne_eq, Nat.reduceEqDiff, not_false_eq_true, Nat.reduceLT, v52, v37, v48, v53]; simp [go_sem, c5, cg, x1, x2, hi, hx]; first | done | rfl) ?_)
  refine qv rfl (Rt.wn rfl) (.bool false) (fun n => by simp only [execOp, List.map_toArray, List.map_cons, List.map_nil, ev_same, ev_ne, ev_c, sz_put, hs, ne_eq, Nat.reduceEqDiff, not_false_eq_true, Nat.reduceLT, v52]; first | done | (simp [go_sem]; done) | rfl) ?_
  refine qv rfl (Rt.wn rfl) (.bool false) (fun n => by simp only [execOp, List.map_toArray, List.map_cons, List.map_nil, ev_same, ev_ne, ev_c, sz_put, hs, ne_eq, Nat.reduceEqDiff, not_false_eq_true, Nat.reduceLT, v52]; first | done | (simp [go_sem]; done) | rfl) ?_
  iterate 14 (refine qv rfl (wg 15 false rfl 520 rfl (by simp [ev_same, ev_ne, sz_put, hs]; done)) _ (fun n => by simp only [execOp, List.map_toArray, List.map_cons, List.map_nil, ev_same, ev_ne, ev_c, sz_put, hs, ne_eq, Nat.reduceEqDiff, not_false_eq_true, Nat.reduceLT, v52, v37, v48, v53]; simp [go_sem, c5, cg, x3, x4, hi, hx]; first | done | rfl) ?_)
  refine qcall rfl (wg 15 false rfl 520 rfl (by simp [ev_same, ev_ne, sz_put, hs]; done)) rfl (vs := #[.slice p n1 c1, .slice p' n2 c2]) (by simp [ev_same, ev_ne, sz_put, hs]) (Yba.call16 _) _ HE.out ?_
  refine qv rfl (wg 15 false rfl 520 rfl (by simp [ev_same, ev_ne, sz_put, hs]; done)) (.bool false) (fun n => by simp only [execOp, List.map_toArray, List.map_cons, List.map_nil, ev_same, ev_ne, ev_c, sz_put, hs, ne_eq, Nat.reduceEqDiff, not_false_eq_true, Nat.reduceLT, v52]; first | done | (simp [go_sem]; done) | rfl) ?_
  refine qv rfl (Rt.wn rfl) (.bool false) (fun n => by simp only [execOp, List.map_toArray, List.map_cons, List.map_nil, ev_same, ev_ne, ev_c, sz_put, hs, ne_eq, Nat.reduceEqDiff, not_false_eq_true, Nat.reduceLT, v52]; first | done | (simp [go_sem]; done) | rfl) ?_
  refine q_nil ?_
  rintro w' ⟨n, rfl⟩
  simp only [Exit.then, Act.put]
  refine wp_cond_false (by simp [Act.eval, Act.put, hs]) ?_
  refine wp_skip ?_
  simp only [Exit.inBlock]
  refine K.out _ n ?_ ?_ 
  · (repeat (refine Fr.set ?_ _ _ (by decide)))
    exact FF.out
  · (repeat (refine Same.set ?_ _ _ (by decide)))
    exact Same.refl _ _
set_option maxRecDepth 100000 in
set_option maxHeartbeats 1600000 in
theorem e112 (Q : Exit → Act → World → Prop) (a : Act) (L : Lw) (w : World) (i N gs cs qp : Nat) (y : Int) (h48 : a.tmps[48]? = some (.int .i64 (i : Nat))) (hi : i < N) (k1 : w.cell? ⟨L.cf.rb, 102, none⟩ = some (.slice (some ⟨gs, 0, none⟩) N cs)) (c0 : w.cell? ⟨gs, i * 2, none⟩ = some (.int .i64 y)) (c1 : w.cell? ⟨gs, i * 2 + 1, none⟩ = some (.iface 120 (.pointer (some ⟨qp, 0, none⟩)))) (F : Fr a L)
    (k : ∀ a', Fr a' L → Same [34, 35, 36, 37, 48, 50, 52] a a' → a'.tmps[54]? = some (.pointer (some ⟨w.heap.size, 0, none⟩)) → Q .normal a' (w.alloc (.cells #[.int .i64 y, .iface 120 (.pointer (some ⟨qp, 0, none⟩))] 125))) : (nth 8 B15).wp Yba.prog Q a w := by
  simp only [L10, L12, L14, L16, B15, nth, c6, Yba.f6, Option.getD, nB, cA, cB, cIn]
  have hs := F.sz
  obtain ⟨p26, h26⟩ := sl F.s26
  obtain ⟨p48, h48'⟩ := sl h48
  have FF : Hid (Fr a L) := F
  have K : Hid _ := k
  clear k F
  go_wp2
  refine K.out _ ?_ ?_ (by simp [hs])
  · (repeat (refine Fr.set ?_ _ _ (by decide)))
    exact FF.out
  · (repeat (refine Same.set ?_ _ _ (by decide)))
    exact Same.refl _ _
set_option maxRecDepth 100000 in
set_option maxHeartbeats 1600000 in
theorem e113 (Q : Exit → Act → World → Prop) (a : Act) (L : Lw) (w : World) (b qp : Nat) (h50 : a.tmps[50]? = some (.pointer (some ⟨qp, 0, none⟩))) (h54 : a.tmps[54]? = some (.pointer (some ⟨b, 0, none⟩))) (c0 : w.cell? ⟨b, 0, none⟩ = some (.int .i64 (L.cf.id : Nat))) (c1 : w.cell? ⟨b, 1, none⟩ = some (.iface 120 (.pointer (some ⟨qp, 0, none⟩)))) (F : Fr a L)
    (k : ∀ a', Fr a' L → Same [34, 35, 36, 37, 48] a a' → Q .normal a' w) : (nB 9 B15).wp Yba.prog Q a w := by
  simp only [L10, L12, L14, L16, B15, nth, c6, Yba.f6, Option.getD, nB, cA, cB, cIn]
  have hs := F.sz
  obtain ⟨p19, h19⟩ := sl F.s19
  obtain ⟨p50, h50'⟩ := sl h50
  obtain ⟨p54, h54'⟩ := sl h54
  have FF : Hid (Fr a L) := F
  have K : Hid _ := k
  clear k F
  have hz := neq117 ⟨qp, 0, none⟩ w
  refine wp_seq_k fun KK hKK => ?_
  have HK : Hid _ := hKK
  clear hKK
  go_wp2
  refine HK.out _ _ ?_
  clear HK KK
  refine wp_cond_false (by simp [Act.eval, Act.put, hs]) ?_
  refine wp_skip ?_
  refine K.out _ ?_ ?_ 
  · (repeat (refine Fr.set ?_ _ _ (by decide)))
    exact FF.out
  · (repeat (refine Same.set ?_ _ _ (by decide)))
    exact Same.refl _ _
set_option maxRecDepth 100000 in
set_option maxHeartbeats 1600000 in
theorem e115 (Q : Exit → Act → World → Prop) (a : Act) (L : Lw) (w : World) (F : Fr a L)
    (k : ∀ a', a'.defers = [] → a'.tmps[16]? = some (.bool true) → Q .ret a' w) : (nB 33 c6).wp Yba.prog Q a w := by
  simp only [L10, L12, L14, L16, B15, nth, c6, Yba.f6, Option.getD, nB, cA, cB, cIn]
  have hs := F.sz
  have hd := F.df
  have K : Hid _ := k
  clear k F
  refine wp_seq_k fun KK hKK => ?_
  have HK : Hid _ := hKK
  clear hKK
  go_wp2
  refine HK.out _ _ ?_
  clear HK KK
  refine wp_ret ?_
  exact K.out _ rfl (by simp [hs])
end Go.Proofs.Ybulkcsck.Ga
