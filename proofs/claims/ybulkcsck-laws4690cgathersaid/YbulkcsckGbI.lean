/-
  OWN TEXT. LawS4690CGather: the checks at the end, piece by piece
-/
import Derived.Test.YbulkcsckGbH
set_option linter.unusedSimpArgs false
set_option linter.unusedVariables false
namespace Go.Proofs.Ybulkcsck.Ga
open Go.RowKit

noncomputable def L10 : Code := cIn (cIn (cB (nth 29 c6)))
noncomputable def L12 : Code := cIn (cIn (cB (nth 30 c6)))
noncomputable def L14 : Code := cIn (cIn (cB (nth 32 c6)))
noncomputable def B15 : Code := cIn (cA (cB L14))
noncomputable def L16 : Code := cIn (cIn (cB (nth 7 B15)))

theorem ev_same {a : Act} {d : Nat} {v : Value} (h : a.tmps.size = 556) (hd : d < 556) : (a.put (some d) v).eval (.tmp d) = v := by simp [Act.eval, Act.put, h, hd]
theorem ev_ne {a : Act} {d k : Nat} {v : Value} (h : d ≠ k) : (a.put (some d) v).eval (.tmp k) = a.eval (.tmp k) := by simp [Act.eval, Act.put, Array.getElem?_setIfInBounds_ne h]
theorem ev_c {a : Act} {v : Value} : a.eval (.const v) = v := rfl
theorem sz_put {a : Act} {d : Nat} {v : Value} : (a.put (some d) v).tmps.size = a.tmps.size := by simp [Act.put]
theorem ev_of {a : Act} {k : Nat} {v : Value} (h : a.tmps[k]? = some v) : a.eval (.tmp k) = v := by simp [Act.eval, h]
theorem wg {o : Oper} {ops : Array Oper} {a : Act} (i : Nat) (b : Bool) (hg : o.guard = some (i, b)) (d : Nat) (hd : (ops[i]?).bind (·.dst) = some d) (hv : a.eval (.tmp d) = .bool b) : Region.wanted o (yielded ops a.tmps) = true := by
  have : a.tmps[d]? = some (.bool b) := by
    cases h : a.tmps[d]? with
    | none => simp [Act.eval, h, undef] at hv
    | some u => simpa [Act.eval, h] using hv
  simp [Region.wanted, hg, yielded, hd, this]
/-- the walk of a region that only reads, behind a name that does not open by itself -/
structure WQ (P : Program) (ops : Array Oper) (w : World) (Q : Act → Prop) (l : List Oper) (a : Act) : Prop where
  out : wpQuiet P ops (fun w' => ∃ n, w' = w.drewN n) Q l a
theorem qv {P : Program} {ops : Array Oper} {o : Oper} {rest : List Oper} {a : Act} {w : World} {Q : Act → Prop} {d : Nat} (hd : o.dst = some d) (hw : Region.wanted o (yielded ops a.tmps) = true) (v : Value) (hr : ∀ n, (execOp a.eval o).run P (w.drewN n) = .ok (.value v) (w.drewN n))
    (h : WQ P ops w Q rest (a.put (some d) v)) : WQ P ops w Q (o :: rest) a :=
  ⟨BigFrame.wpQuiet_want hw fun K hK => ⟨v, fun w' ⟨n, e⟩ => by subst e; unfold Oper.quietAt; rw [hr n]; exact ⟨rfl, rfl⟩, hK _ (by rw [hd]; exact h.out)⟩⟩
theorem qcall {P : Program} {ops : Array Oper} {o : Oper} {rest : List Oper} {a : Act} {w : World} {Q : Act → Prop} {d : Nat} {f : FuncId} {xs : Array Operand} {ats : Array TypeId} {vs : Array Value} (hd : o.dst = some d) (hw : Region.wanted o (yielded ops a.tmps) = true) (ho : o.op = .call { callee := .value (.func f), args := xs, argTypes := ats })
    (hv : xs.map a.eval = vs) (hc : ∀ w, (callFunc f vs).run P w = .ok (.enter f vs) w) (v : Value) (hr : ∀ n, Calls P f vs (w.drewN n) fun e w' => e = .returned v ∧ w' = w.drewN n)
    (h : WQ P ops w Q rest (a.put (some d) v)) : WQ P ops w Q (o :: rest) a :=
  ⟨BigFrame.wpQuiet_want hw fun K hK => ⟨v, fun w' ⟨n, e⟩ => by
    subst e
    unfold Oper.quietAt execOp
    simp only [ho, resolve, hv, Act.eval, Deferred.ofValue, Sem.run_bind, Sem.run_pure, Result.andThen_ok, invoke, Array.append_empty, Array.empty_append, hc, Oper.quietUpon]
    exact ⟨trivial, (hr n).mono fun e w' h => ⟨h.1, n, h.2⟩⟩, hK _ (by rw [hd]; exact h.out)⟩⟩
theorem q_nil {P : Program} {ops : Array Oper} {w : World} {Q : Act → Prop} {a : Act} (h : Q a) : WQ P ops w Q [] a := ⟨wpQuiet_nil h⟩
theorem q_region {P : Program} {id : Nat} {Q : Exit → Act → World → Prop} {a : Act} {w : World} {l : List Oper} (hm : P.follows .mixedOrders = true) (hB : Region.lexB .any l.toArray = true)
    (h : WQ P l.toArray w (fun a' => ∀ w', (∃ n, w' = w.drewN n) → Q .normal a' w') l a) : (Code.region id l.toArray true).wp P Q a w := wp_region_quiet_lit hm hB h.out

set_option maxRecDepth 100000 in
set_option maxHeartbeats 800000 in
theorem eq16 (w : World) (p p' : Option Addr) (n c n' c' : Nat) (S : ByteArray) (h1 : (convert 37 9 (.slice p n c)).run Yba.prog w = .ok (.string S) w) (h2 : (convert 37 9 (.slice p' n' c')).run Yba.prog w = .ok (.string S) w) :
    Calls Yba.prog 16 #[.slice p n c, .slice p' n' c'] w fun e w' => e = .returned (.bool true) ∧ w' = w := by
  go_enter Yba.func16, Yba.ntmps16
  go_wp2
  go_ret
  simp
theorem conv_byt {w : World} {p : Option Addr} {m c : Nat} (h : Byt w p m) : ∃ S, (convert 37 9 (.slice p m c)).run Yba.prog w = .ok (.string S) w := by
  rcases h with rfl | ⟨b, o, l, rfl, h2, h3⟩
  · cases p with
    | none => exact ⟨_, run_convert_bytes_nil w 37 5 Yba.underlying37 Yba.underlying5 0 c 9 Yba.underlying9⟩
    | some p =>
      refine ⟨ByteArray.empty, ?_⟩
      rw [run_convert_bytes_string w 37 9 5 _ 0 c Yba.underlying37 Yba.underlying5 Yba.underlying9]
      simp [Conv.bytesToString, loadCells, loadCellsFrom]
  · exact ⟨_, run_convert_bytes_arg w 37 5 Yba.underlying37 Yba.underlying5 b o m c l h2 (fun i hi => h3 i _ (by
      simp only [u8s, List.getElem?_map]
      rw [List.getElem?_eq_getElem (by omega), List.getD_eq_getElem?_getD, List.getElem?_eq_getElem (by omega)]
      rfl)) 9 Yba.underlying9⟩

set_option maxRecDepth 100000 in
set_option maxHeartbeats 1600000 in
theorem e28 (Q : Exit → Act → World → Prop) (a : Act) (L : Lw) (w : World) (p : Option Addr) (c : Nat) (N : Nat) (pf : Option Addr) (cf : Nat) (h34 : a.tmps[34]? = some (.slice p N c)) (hk : w.cell? ⟨L.cf.kb, 2, none⟩ = some (.slice pf N cf)) (F : Fr a L)
    (k : ∀ a', Fr a' L → Same [34, 35, 36, 37] a a' → Q .normal a' w) : (nth 28 c6).wp Yba.prog Q a w := by
  simp only [L10, L12, L14, L16, B15, nth, c6, Yba.f6, Option.getD, nB, cA, cB, cIn]
  have hs := F.sz
  obtain ⟨p25, h25⟩ := sl F.s25
  obtain ⟨p34, h34'⟩ := sl h34
  have FF : Hid (Fr a L) := F
  have K : Hid _ := k
  clear k F
  refine wp_seq_k fun KK hKK => ?_
  have HK : Hid _ := hKK
  clear hKK
  go_wp2
  refine HK.out _ _ ?_
  clear HK KK
  refine wp_cond_false (by simp [Act.eval, Act.put, hs]) ?_
  refine wp_skip ?_
  refine K.out _ ?_ ?_ 
  · (repeat (refine Fr.set ?_ _ _ (by decide)))
    exact FF.out
  · (repeat (refine Same.set ?_ _ _ (by decide)))
    exact Same.refl _ _
set_option maxRecDepth 100000 in
set_option maxHeartbeats 1600000 in
theorem e81 (Q : Exit → Act → World → Prop) (a : Act) (L : Lw) (w : World)  (F : Fr a L)
    (k : ∀ a', Fr a' L → Same [34, 35, 36, 37] a a' → a'.tmps[46]? = some (.int .i64 ((0 : Nat) : Int)) → Q .normal a' w) : (cA (nth 29 c6)).wp Yba.prog Q a w := by
  simp only [L10, L12, L14, L16, B15, nth, c6, Yba.f6, Option.getD, nB, cA, cB, cIn]
  have hs := F.sz
  have FF : Hid (Fr a L) := F
  have K : Hid _ := k
  clear k F
  go_wp2
  refine K.out _ ?_ ?_ (by simp [hs])
  · (repeat (refine Fr.set ?_ _ _ (by decide)))
    exact FF.out
  · (repeat (refine Same.set ?_ _ _ (by decide)))
    exact Same.refl _ _
set_option maxRecDepth 100000 in
set_option maxHeartbeats 1600000 in
theorem e82y (Q : Exit → Act → World → Prop) (a : Act) (L : Lw) (w : World) (i N : Nat) (p : Option Addr) (c : Nat) (h46 : a.tmps[46]? = some (.int .i64 (i : Nat))) (h34 : a.tmps[34]? = some (.slice p N c)) (hi : i < N) (F : Fr a L)
    (k : ∀ a', Fr a' L → Same [34, 35, 36, 37, 46] a a' → Q .normal a' w) : (cA L10).wp Yba.prog Q a w := by
  simp only [L10, L12, L14, L16, B15, nth, c6, Yba.f6, Option.getD, nB, cA, cB, cIn]
  have hs := F.sz
  obtain ⟨p46, h46'⟩ := sl h46
  obtain ⟨p34, h34'⟩ := sl h34
  have FF : Hid (Fr a L) := F
  have K : Hid _ := k
  clear k F
  have d1 : decide ((i : Int) < (N : Int)) = true := decide_eq_true (by omega)
  refine wp_seq_k fun KK hKK => ?_
  have HK : Hid _ := hKK
  clear hKK
  go_wp2
  refine HK.out _ _ ?_
  clear HK KK
  refine wp_cond_true (by simp [Act.eval, Act.put, hs]) ?_
  refine wp_skip ?_
  refine K.out _ ?_ ?_ 
  · (repeat (refine Fr.set ?_ _ _ (by decide)))
    exact FF.out
  · (repeat (refine Same.set ?_ _ _ (by decide)))
    exact Same.refl _ _
set_option maxRecDepth 100000 in
set_option maxHeartbeats 1600000 in
theorem e82n (Q : Exit → Act → World → Prop) (a : Act) (L : Lw) (w : World) (i N : Nat) (p : Option Addr) (c : Nat) (h46 : a.tmps[46]? = some (.int .i64 (i : Nat))) (h34 : a.tmps[34]? = some (.slice p N c)) (hi : ¬ i < N) (F : Fr a L)
    (k : ∀ a', Fr a' L → Same [34, 35, 36, 37, 46] a a' → Q (.exit 10) a' w) : (cA L10).wp Yba.prog Q a w := by
  simp only [L10, L12, L14, L16, B15, nth, c6, Yba.f6, Option.getD, nB, cA, cB, cIn]
  have hs := F.sz
  obtain ⟨p46, h46'⟩ := sl h46
  obtain ⟨p34, h34'⟩ := sl h34
  have FF : Hid (Fr a L) := F
  have K : Hid _ := k
  clear k F
  have d1 : decide ((i : Int) < (N : Int)) = false := decide_eq_false (by omega)
  refine wp_seq_k fun KK hKK => ?_
  have HK : Hid _ := hKK
  clear hKK
  go_wp2
  refine HK.out _ _ ?_
  clear HK KK
  refine wp_cond_false (by simp [Act.eval, Act.put, hs]) ?_
  refine wp_exit ?_
  refine K.out _ ?_ ?_ 
  · (repeat (refine Fr.set ?_ _ _ (by decide)))
    exact FF.out
  · (repeat (refine Same.set ?_ _ _ (by decide)))
    exact Same.refl _ _
set_option maxRecDepth 100000 in
set_option maxHeartbeats 1600000 in
theorem e83 (Q : Exit → Act → World → Prop) (a : Act) (L : Lw) (w : World) (i : Nat) (h46 : a.tmps[46]? = some (.int .i64 (i : Nat))) (hi : i ≤ 1000) (F : Fr a L)
    (k : ∀ a', Fr a' L → Same [34, 35, 36, 37] a a' → a'.tmps[46]? = some (.int .i64 ((i + 1 : Nat) : Int)) → Q .normal a' w) : (cB (cB L10)).wp Yba.prog Q a w := by
  simp only [L10, L12, L14, L16, B15, nth, c6, Yba.f6, Option.getD, nB, cA, cB, cIn]
  have hs := F.sz
  obtain ⟨p46, h46'⟩ := sl h46
  have FF : Hid (Fr a L) := F
  have K : Hid _ := k
  clear k F
  have w1 : IntKind.i64.wrap ((i : Int) + 1) = ((i + 1 : Nat) : Int) := by rw [wrap_small _ (by omega) (by omega)]; omega
  go_wp2
  refine K.out _ ?_ ?_ (by simp [hs])
  · (repeat (refine Fr.set ?_ _ _ (by decide)))
    exact FF.out
  · (repeat (refine Same.set ?_ _ _ (by decide)))
    exact Same.refl _ _
set_option maxRecDepth 100000 in
set_option maxHeartbeats 1600000 in
theorem e84 (Q : Exit → Act → World → Prop) (a : Act) (L : Lw) (w : World) (i N : Nat) (x : Int) (g1 g2 g3 g4 g5 c1 c2 c3 c4 c5 : Nat) (p p' : Option Addr) (m c m' c' : Nat) (h46 : a.tmps[46]? = some (.int .i64 (i : Nat))) (h34 : a.tmps[34]? = some (.slice (some ⟨g2, 0, none⟩) N c2)) (h35 : a.tmps[35]? = some (.slice (some ⟨g5, 0, none⟩) N c5)) (hi : i < N) (k2 : w.cell? ⟨L.cf.kb, 2, none⟩ = some (.slice (some ⟨g1, 0, none⟩) N c1)) (k3 : w.cell? ⟨L.cf.kb, 3, none⟩ = some (.slice (some ⟨g3, 0, none⟩) N c3)) (k4 : w.cell? ⟨L.cf.kb, 4, none⟩ = some (.slice (some ⟨g4, 0, none⟩) N c4)) (x1 : w.cell? ⟨g1, i, none⟩ = some (.int .i64 x)) (x2 : w.cell? ⟨g2, i, none⟩ = some (.int .i64 x)) (x3 : w.cell? ⟨g3, i, none⟩ = some (.int .i64 1)) (x4 : w.cell? ⟨g4, i, none⟩ = some (.slice p m c)) (x5 : w.cell? ⟨g5, i, none⟩ = some (.slice p' m' c')) (he : ∀ n, Calls Yba.prog 16 #[.slice p m c, .slice p' m' c'] (w.drewN n) fun e w' => e = .returned (.bool true) ∧ w' = w.drewN n) (F : Fr a L)
    (k : ∀ a' n, Fr a' L → Same [34, 35, 36, 37, 46] a a' → Q .normal a' (w.drewN n)) : (cA (cB L10)).wp Yba.prog Q a w := by
  simp only [L10, L12, L14, L16, B15, nth, c6, Yba.f6, Option.getD, nB, cA, cB, cIn]
  have hs := F.sz
  have v25 := ev_of F.s25
  have v34 := ev_of h34
  have v35 := ev_of h35
  have v46 := ev_of h46
  have FF : Hid (Fr a L) := F
  have K : Hid _ := k
  clear k F
  have HE : Hid (∀ n, Calls Yba.prog 16 #[.slice p m c, .slice p' m' c'] (w.drewN n) fun e w' => e = .returned (.bool true) ∧ w' = w.drewN n) := he
  clear he
  refine wp_block ?_
  refine wp_seq ?_
  refine q_region (by kernel_rfl) (by kernel_rfl) ?_
  iterate 11 (refine qv rfl (Rt.wn rfl) _ (fun n => by simp only [execOp, ev_same, ev_ne, ev_c, sz_put, hs, ne_eq, Nat.reduceEqDiff, not_false_eq_true, Nat.reduceLT, v25, v34, v46]; simp [go_sem, k2, x1, x2, hi]; first | done | rfl) ?_)
  refine qv rfl (Rt.wn rfl) (.bool false) (fun n => by simp only [execOp, ev_same, ev_ne, ev_c, sz_put, hs, ne_eq, Nat.reduceEqDiff, not_false_eq_true, Nat.reduceLT, v25]; first | done | (simp [go_sem]; done) | rfl) ?_
  refine qv rfl (Rt.wn rfl) (.bool false) (fun n => by simp only [execOp, ev_same, ev_ne, ev_c, sz_put, hs, ne_eq, Nat.reduceEqDiff, not_false_eq_true, Nat.reduceLT, v25]; first | done | (simp [go_sem]; done) | rfl) ?_
  iterate 7 (refine qv rfl (wg 12 false rfl 351 rfl (by simp [ev_same, ev_ne, sz_put, hs]; done)) _ (fun n => by simp only [execOp, ev_same, ev_ne, ev_c, sz_put, hs, ne_eq, Nat.reduceEqDiff, not_false_eq_true, Nat.reduceLT, v25, v46]; simp [go_sem, k3, x3, hi]; first | done | rfl) ?_)
  refine qv rfl (wg 12 false rfl 351 rfl (by simp [ev_same, ev_ne, sz_put, hs]; done)) (.bool false) (fun n => by simp only [execOp, ev_same, ev_ne, ev_c, sz_put, hs, ne_eq, Nat.reduceEqDiff, not_false_eq_true, Nat.reduceLT, v25]; first | done | (simp [go_sem]; done) | rfl) ?_
  refine qv rfl (Rt.wn rfl) (.bool false) (fun n => by simp only [execOp, ev_same, ev_ne, ev_c, sz_put, hs, ne_eq, Nat.reduceEqDiff, not_false_eq_true, Nat.reduceLT, v25]; first | done | (simp [go_sem]; done) | rfl) ?_
  refine qv rfl (Rt.wn rfl) (.bool false) (fun n => by simp only [execOp, ev_same, ev_ne, ev_c, sz_put, hs, ne_eq, Nat.reduceEqDiff, not_false_eq_true, Nat.reduceLT, v25]; first | done | (simp [go_sem]; done) | rfl) ?_
  iterate 11 (refine qv rfl (wg 22 false rfl 361 rfl (by simp [ev_same, ev_ne, sz_put, hs]; done)) _ (fun n => by simp only [execOp, ev_same, ev_ne, ev_c, sz_put, hs, ne_eq, Nat.reduceEqDiff, not_false_eq_true, Nat.reduceLT, v25, v35, v46]; simp [go_sem, k4, x4, x5, hi]; first | done | rfl) ?_)
  refine qcall rfl (wg 22 false rfl 361 rfl (by simp [ev_same, ev_ne, sz_put, hs])) rfl (vs := #[.slice p m c, .slice p' m' c']) (by simp [ev_same, ev_ne, sz_put, hs]) (Yba.call16 _) _ HE.out ?_
  refine qv rfl (wg 22 false rfl 361 rfl (by simp [ev_same, ev_ne, sz_put, hs]; done)) (.bool false) (fun n => by simp only [execOp, ev_same, ev_ne, ev_c, sz_put, hs, ne_eq, Nat.reduceEqDiff, not_false_eq_true, Nat.reduceLT, v25]; first | done | (simp [go_sem]; done) | rfl) ?_
  refine qv rfl (Rt.wn rfl) (.bool false) (fun n => by simp only [execOp, ev_same, ev_ne, ev_c, sz_put, hs, ne_eq, Nat.reduceEqDiff, not_false_eq_true, Nat.reduceLT, v25]; first | done | (simp [go_sem]; done) | rfl) ?_
  refine q_nil ?_
  rintro w' ⟨n, rfl⟩
  simp only [Exit.then, Act.put]
  refine wp_cond_false (by simp [Act.eval, Act.put, hs]) ?_
  refine wp_skip ?_
  simp only [Exit.inBlock]
  refine K.out _ n ?_ ?_ 
  · (repeat (refine Fr.set ?_ _ _ (by decide)))
    exact FF.out
  · (repeat (refine Same.set ?_ _ _ (by decide)))
    exact Same.refl _ _
set_option maxRecDepth 100000 in
set_option maxHeartbeats 1600000 in
theorem e86 (Q : Exit → Act → World → Prop) (a : Act) (L : Lw) (w : World)  (F : Fr a L)
    (k : ∀ a', Fr a' L → Same [34, 35, 36, 37] a a' → a'.tmps[47]? = some (.int .i64 ((1 : Nat) : Int)) → Q .normal a' w) : (cA (nth 30 c6)).wp Yba.prog Q a w := by
  simp only [L10, L12, L14, L16, B15, nth, c6, Yba.f6, Option.getD, nB, cA, cB, cIn]
  have hs := F.sz
  have FF : Hid (Fr a L) := F
  have K : Hid _ := k
  clear k F
  go_wp2
  refine K.out _ ?_ ?_ (by simp [hs])
  · (repeat (refine Fr.set ?_ _ _ (by decide)))
    exact FF.out
  · (repeat (refine Same.set ?_ _ _ (by decide)))
    exact Same.refl _ _
set_option maxRecDepth 100000 in
set_option maxHeartbeats 1600000 in
theorem e87y (Q : Exit → Act → World → Prop) (a : Act) (L : Lw) (w : World) (s : Nat) (h47 : a.tmps[47]? = some (.int .i64 (s : Nat))) (hi : s ≤ 3) (F : Fr a L)
    (k : ∀ a', Fr a' L → Same [34, 35, 36, 37, 47] a a' → Q .normal a' w) : (cA L12).wp Yba.prog Q a w := by
  simp only [L10, L12, L14, L16, B15, nth, c6, Yba.f6, Option.getD, nB, cA, cB, cIn]
  have hs := F.sz
  obtain ⟨p47, h47'⟩ := sl h47
  have FF : Hid (Fr a L) := F
  have K : Hid _ := k
  clear k F
  have d1 : decide ((s : Int) ≤ 3) = true := decide_eq_true (by omega)
  refine wp_seq_k fun KK hKK => ?_
  have HK : Hid _ := hKK
  clear hKK
  go_wp2
  refine HK.out _ _ ?_
  clear HK KK
  refine wp_cond_true (by simp [Act.eval, Act.put, hs]) ?_
  refine wp_skip ?_
  refine K.out _ ?_ ?_ 
  · (repeat (refine Fr.set ?_ _ _ (by decide)))
    exact FF.out
  · (repeat (refine Same.set ?_ _ _ (by decide)))
    exact Same.refl _ _
set_option maxRecDepth 100000 in
set_option maxHeartbeats 1600000 in
theorem e87n (Q : Exit → Act → World → Prop) (a : Act) (L : Lw) (w : World) (s : Nat) (h47 : a.tmps[47]? = some (.int .i64 (s : Nat))) (hi : ¬ s ≤ 3) (F : Fr a L)
    (k : ∀ a', Fr a' L → Same [34, 35, 36, 37, 47] a a' → Q (.exit 12) a' w) : (cA L12).wp Yba.prog Q a w := by
  simp only [L10, L12, L14, L16, B15, nth, c6, Yba.f6, Option.getD, nB, cA, cB, cIn]
  have hs := F.sz
  obtain ⟨p47, h47'⟩ := sl h47
  have FF : Hid (Fr a L) := F
  have K : Hid _ := k
  clear k F
  have d1 : decide ((s : Int) ≤ 3) = false := decide_eq_false (by omega)
  refine wp_seq_k fun KK hKK => ?_
  have HK : Hid _ := hKK
  clear hKK
  go_wp2
  refine HK.out _ _ ?_
  clear HK KK
  refine wp_cond_false (by simp [Act.eval, Act.put, hs]) ?_
  refine wp_exit ?_
  refine K.out _ ?_ ?_ 
  · (repeat (refine Fr.set ?_ _ _ (by decide)))
    exact FF.out
  · (repeat (refine Same.set ?_ _ _ (by decide)))
    exact Same.refl _ _
set_option maxRecDepth 100000 in
set_option maxHeartbeats 1600000 in
theorem e88 (Q : Exit → Act → World → Prop) (a : Act) (L : Lw) (w : World) (i : Nat) (h47 : a.tmps[47]? = some (.int .i64 (i : Nat))) (hi : i ≤ 1000) (F : Fr a L)
    (k : ∀ a', Fr a' L → Same [34, 35, 36, 37] a a' → a'.tmps[47]? = some (.int .i64 ((i + 1 : Nat) : Int)) → Q .normal a' w) : (cB (cB L12)).wp Yba.prog Q a w := by
  simp only [L10, L12, L14, L16, B15, nth, c6, Yba.f6, Option.getD, nB, cA, cB, cIn]
  have hs := F.sz
  obtain ⟨p47, h47'⟩ := sl h47
  have FF : Hid (Fr a L) := F
  have K : Hid _ := k
  clear k F
  have w1 : IntKind.i64.wrap ((i : Int) + 1) = ((i + 1 : Nat) : Int) := by rw [wrap_small _ (by omega) (by omega)]; omega
  go_wp2
  refine K.out _ ?_ ?_ (by simp [hs])
  · (repeat (refine Fr.set ?_ _ _ (by decide)))
    exact FF.out
  · (repeat (refine Same.set ?_ _ _ (by decide)))
    exact Same.refl _ _
set_option maxRecDepth 100000 in
set_option maxHeartbeats 1600000 in
theorem e89 (Q : Exit → Act → World → Prop) (a : Act) (L : Lw) (w : World) (s vb x : Nat) (h47 : a.tmps[47]? = some (.int .i64 (s : Nat))) (h3 : s ≤ 3) (k1 : w.cell? ⟨L.cf.rb, 97 + s, none⟩ = some (.pointer (some ⟨vb, 0, none⟩))) (k2 : w.cell? ⟨vb, 1, none⟩ = some (.int .i64 (x : Nat))) (k3 : w.cell? ⟨L.cA, s, none⟩ = some (.int .i64 (x : Nat))) (F : Fr a L)
    (k : ∀ a' n, Fr a' L → Same [34, 35, 36, 37, 47] a a' → Q .normal a' (w.drewN n)) : (cA (cB L12)).wp Yba.prog Q a w := by
  simp only [L10, L12, L14, L16, B15, nth, c6, Yba.f6, Option.getD, nB, cA, cB, cIn]
  have hs := F.sz
  have v26 := ev_of F.s26
  have v32 := ev_of F.s32
  have v47 := ev_of h47
  have FF : Hid (Fr a L) := F
  have K : Hid _ := k
  clear k F
  have s4 : ((s : Nat) : Int) < 4 := by omega
  have s4' : s < 4 := by omega
  refine wp_block ?_
  refine wp_seq ?_
  refine q_region (by kernel_rfl) (by kernel_rfl) ?_
  iterate 13 (refine qv rfl (Rt.wn rfl) _ (fun n => by simp only [execOp, ev_same, ev_ne, ev_c, sz_put, hs, ne_eq, Nat.reduceEqDiff, not_false_eq_true, Nat.reduceLT, v26, v32, v47]; simp [go_sem, k1, k2, k3, s4, s4']; first | done | rfl) ?_)
  refine qv rfl (Rt.wn rfl) (.bool false) (fun n => by simp only [execOp, ev_same, ev_ne, ev_c, sz_put, hs, ne_eq, Nat.reduceEqDiff, not_false_eq_true, Nat.reduceLT, v26]; first | done | (simp [go_sem]; done) | rfl) ?_
  refine q_nil ?_
  rintro w' ⟨n, rfl⟩
  simp only [Exit.then, Act.put]
  refine wp_cond_false (by simp [Act.eval, Act.put, hs]) ?_
  refine wp_skip ?_
  simp only [Exit.inBlock]
  refine K.out _ n ?_ ?_ 
  · (repeat (refine Fr.set ?_ _ _ (by decide)))
    exact FF.out
  · (repeat (refine Same.set ?_ _ _ (by decide)))
    exact Same.refl _ _
end Go.Proofs.Ybulkcsck.Ga
