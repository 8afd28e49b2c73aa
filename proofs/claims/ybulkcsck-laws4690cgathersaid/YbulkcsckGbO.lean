/-
  OWN TEXT. LawS4690CGather: the set-up: memory
-/
import Derived.Test.YbulkcsckGbN
set_option linter.unusedSimpArgs false
set_option linter.unusedVariables false
namespace Go.Proofs.Ybulkcsck.Ga
open Go.RowKit

theorem s9 (Q : Exit → Act → World → Prop) (a : Act) (w : World) (y : Nat) (v : Int) (h20 : a.tmps[20]? = some (.int .u8 (y : Nat))) (h6 : a.tmps[6]? = some (.int .i64 v)) (h21 : a.tmps[21]? = some (.int .i64 v)) (h22 : a.tmps[22]? = some (.bool false)) (F : Fz a)
    (k : ∀ a' wi lv, Fz a' → Same [0, 1, 2, 3, 4, 5, 6, 7, 17, 18, 19, 20] a a' → a'.tmps[21]? = some (.int .i64 wi) → a'.tmps[22]? = some (.bool lv) → Q .normal a' w) : (nth 8 c6).wp Yba.prog Q a w := by
  rcases (by omega : y < 6 ∨ (6 ≤ y ∧ y < 12) ∨ y = 12 ∨ y = 13 ∨ y = 14 ∨ 14 < y) with h | h | h | h | h | h
  · exact s9a Q a w y v h20 h6 h21 h22 h F fun a' F' S' q r => k a' _ _ F' S' q r
  · exact s9b Q a w y v h20 h6 h21 h22 h F fun a' F' S' q r => k a' _ _ F' S' q r
  · exact s9c Q a w y v h20 h6 h21 h22 h F fun a' F' S' q r => k a' _ _ F' S' q r
  · exact s9d Q a w y v h20 h6 h21 h22 h F fun a' F' S' q r => k a' _ _ F' S' q r
  · exact s9e Q a w y v h20 h6 h21 h22 h F fun a' F' S' q r => k a' _ _ F' S' q r
  · exact s9f Q a w y v h20 h6 h21 h22 h F fun a' F' S' q r => k a' _ _ F' S' q r

/-! ### what is made -/
set_option maxRecDepth 100000 in
theorem mkOne {t e : TypeId} {z : Value} {b : Nat} (ht : Yba.prog.underlying t = some (.slice e)) (hi : (Yba.prog.info? e).bind (fun i => i.zero.map fun z => (z, i.size, i.bytes)) = some (z, 1, b)) (hb : b ≤ 100) (hz : z.cells = #[z]) (n : Nat) (hn : n ≤ 1000) (w : World) :
    (Instr.makeSlice t (.int .i64 (n : Nat)) (.int .i64 (n : Nat))).run Yba.prog w = .ok (.slice (some ⟨w.heap.size, 0, none⟩) n n) (w.alloc (.cells (List.replicate n z).toArray e)) := by
  obtain ⟨i, hie, h⟩ := Option.bind_eq_some_iff.1 hi
  obtain ⟨z', hz', h⟩ := Option.map_eq_some_iff.1 h
  simp only [Prod.mk.injEq] at h
  obtain ⟨rfl, h1, h2⟩ := h
  have hbn : (b : Int) * (n : Int) ≤ 281474976710656 := by
    have h : b * n ≤ 100 * 1000 := Nat.mul_le_mul hb hn
    have h' : ((b * n : Nat) : Int) ≤ ((100 * 1000 : Nat) : Int) := Int.ofNat_le.2 h
    rw [Int.natCast_mul] at h'
    exact Int.le_trans h' (by decide)
  have := run_make (P := Yba.prog) w t e i z' ht hie hz' .i64 .i64 n n (by omega) (Int.le_refl _) (by rw [h2]; exact hbn) (by omega)
  rw [this, h1, hz, Int.toNat_natCast, Nat.mul_one n]
  have e : madeCells #[z'] n = (List.replicate n z').toArray := by
    rw [← toList_madeCells_one]
  rw [e]
theorem mk99 (n : Nat) (hn : n ≤ 1000) (w : World) : (Instr.makeSlice 99 (.int .i64 (n : Nat)) (.int .i64 (n : Nat))).run Yba.prog w = .ok (.slice (some ⟨w.heap.size, 0, none⟩) n n) (w.alloc (.cells (List.replicate n (Value.bool false)).toArray 4)) := mkOne (b := 1) Yba.underlying99 (by kernel_rfl) (by decide) rfl n hn w
theorem mk76 (n : Nat) (hn : n ≤ 1000) (w : World) : (Instr.makeSlice 76 (.int .i64 (n : Nat)) (.int .i64 (n : Nat))).run Yba.prog w = .ok (.slice (some ⟨w.heap.size, 0, none⟩) n n) (w.alloc (.cells (List.replicate n (Value.slice none 0 0)).toArray 37)) := mkOne (b := 24) Yba.underlying76 (by kernel_rfl) (by decide) rfl n hn w
theorem mk60 (n : Nat) (hn : n ≤ 1000) (w : World) : (Instr.makeSlice 60 (.int .i64 (n : Nat)) (.int .i64 (n : Nat))).run Yba.prog w = .ok (.slice (some ⟨w.heap.size, 0, none⟩) n n) (w.alloc (.cells (List.replicate n (Value.int .i64 0)).toArray 3)) := mkOne (b := 8) Yba.underlying60 (by kernel_rfl) (by decide) rfl n hn w
section
variable {P : Program} {Q : Exit → Act → World → Prop} {o : Oper} {a : Act} {w w' : World} {K : Act → World → Prop}
theorem wp_make {t : TypeId} {x y : Operand} {u v r : Value} {d : Nat} (hd : o.dst = some d) (ho : o.op = .makeSlice t x y) (hx : a.eval x = u) (hy : a.eval y = v) (hr : (Instr.makeSlice t u v).run P w = .ok r w') (h : K (a.put (some d) r) w') : o.wp P a w K Q := by
  unfold Oper.wp execOp
  simp only [ho, hx, hy, Sem.run_bind, hr, Result.andThen_ok, Sem.run_pure]
  rw [← hd] at h
  exact h
theorem wp_boxd {t : TypeId} {x : Operand} {c : Array Value} {d : Nat} (hd : o.dst = some d) (ho : o.op = .box t x) (hx : (a.eval x).cells = c) (h : K (a.put (some d) (.pointer (some ⟨w.heap.size, 0, none⟩))) (w.alloc (.cells c t))) : o.wp P a w K Q :=
  Rt.wp_box ho hx (by rw [hd]; exact h)
theorem wp_store_ptr {x y : Operand} {ty : TypeId} (b i : Nat) (hd : o.dst = none) (ho : o.op = .store ty x y) (hx : a.eval x = .pointer (some ⟨b, i, none⟩)) {p : Option Addr} (hy : a.eval y = .pointer p) (hz : (sizeOf ty).run P w = .ok 1 w) {u : Value} (hc : w.cell? ⟨b, i, none⟩ = some u) (hf : w.frozen? ⟨b, i, none⟩ = false)
    (h : K a (w.setCell ⟨b, i, none⟩ (.pointer p))) : o.wp P a w K Q := by
  unfold Oper.wp execOp
  simp only [ho, hx, hy]
  simp [Instr.storeAt, Instr.sureAddr, storeVar, hz, storeCells, go_sem, hc, hf, Sem.run_bind]
  rw [hd]
  exact h
end
theorem size55 (w : World) : (sizeOf 55).run Yba.prog w = .ok 1 w := by kernel_rfl
theorem built101 (v : Value) (p : Option Addr) (m c : Nat) (e : v = .slice p m c) : Yba.prog.built 101 [(0, v)] = some #[v, .int .i64 0] := by subst e; kernel_rfl
theorem built103 (u v : Value) (p p' : Option Addr) (m c m' c' : Nat) (e : u = .slice p m c) (e' : v = .slice p' m' c') : Yba.prog.built 103 [(0, .agg #[u, .int .i64 0]), (1, v)] = some #[u, .int .i64 0, v] := by subst e e'; kernel_rfl
theorem y_index56 {ops : Array Oper} {S : World → Prop} {o : Oper} {a : Act} {x y : Operand} (rb s : Nat) (hs : s < 4) (hw : Region.wanted o (yielded ops a.tmps) = true) (ho : o.op = .indexAddr 56 x y) (hx : a.eval x = .pointer (some ⟨rb, 97, none⟩)) (hy : a.eval y = .int .i64 (s : Nat)) : YieldsIf Yba.prog ops S o (.pointer (some ⟨rb, 97 + s, none⟩)) a :=
  Rt.y_of hw fun w _ => by
    have h4 : (s : Int) < 4 := by omega
    unfold execOp
    simp only [ho, hx, hy]
    simp [go_sem, hs, h4]
/-! ### a region that draws its order and makes memory, behind a name that does not open by itself -/
structure WA (P : Program) (md : Region.Mode) (ops : Array Oper) (Q : Exit → Act → World → Prop) (fuel : Nat) (listed : Array Bool) (a : Act) (w : World) : Prop where
  out : wpAnyH P md ops (Rt.np Q) (fun _ => True) fuel listed a w
section
variable {P : Program} {md : Region.Mode} {l r ri rj : List Oper} {Q : Exit → Act → World → Prop} {fuel : Nat} {listed : Array Bool} {a : Act} {w w' wi wj : World} {o oi oj : Oper}
theorem wa_region {id : Nat} (T : List (Option Value)) (fuel : Nat) (hm : P.follows .mixedOrders = true) (hs : Region.noSelect l.toArray = true) (hT : T.length.ble l.length = true) (hn : l.length = fuel + (Rt.idx T 0).length) (hok : Rt.okAll .any l.toArray (Rt.idx T 0) (Array.replicate l.length false) = true)
    (hY : Rt.YL P l.toArray (fun _ => True) (Rt.putL l T a) l T) (h : WA P .any l.toArray Q fuel (Rt.listAll (Rt.idx T 0) (Array.replicate l.length false)) (Rt.putL l T a) w.drew) : (Code.region id l.toArray true).wp P Q a w := Rt.regionL (fun _ => True) T fuel hm hs hT hn hok trivial hY h.out
theorem wa_more {n : Nat} (T : List (Option Value)) (fuel : Nat) (hs : Region.noSelect l.toArray = true) (hT : T.length.ble l.length = true) (hn : n = fuel + (Rt.idx T 0).length) (hok : Rt.okAll md l.toArray (Rt.idx T 0) listed = true)
    (hY : Rt.YL P l.toArray (fun _ => True) (Rt.putL l T a) l T) (h : WA P md l.toArray Q fuel (Rt.listAll (Rt.idx T 0) listed) (Rt.putL l T a) w) : WA P md l.toArray Q n listed a w := ⟨Rt.moreL T fuel hs hT hn hok trivial hY h.out⟩
theorem wa_make {t : TypeId} {x y : Operand} {u v z : Value} {d : Nat} (i : Nat) (hr : Region.ready md l.toArray listed = [i]) (hl : l.drop i = o :: r) (hg : o.guard = none) (hd : o.dst = some d) (ho : o.op = .makeSlice t x y) (hx : a.eval x = u) (hy : a.eval y = v) (hrun : (Instr.makeSlice t u v).run P w = .ok z w')
    (h : WA P md l.toArray Q fuel (listed.setIfInBounds i true) (a.put (some d) z) w') : WA P md l.toArray Q (fuel + 1) listed a w := ⟨Rt.oneL i hr hl (Rt.wn hg) (wp_make hd ho hx hy hrun ⟨trivial, h.out⟩)⟩
theorem wa_make2 {ti tj : TypeId} {xi yi xj yj : Operand} {ui vi zi uj vj zj : Value} {di dj : Nat} (i j : Nat) (hr : Region.ready md l.toArray listed = [i, j]) (hli : l.drop i = oi :: ri) (hlj : l.drop j = oj :: rj) (hgi : oi.guard = none) (hgj : oj.guard = none) (hdi : oi.dst = some di) (hdj : oj.dst = some dj)
    (hoi : oi.op = .makeSlice ti xi yi) (hoj : oj.op = .makeSlice tj xj yj) (hxi : a.eval xi = ui) (hyi : a.eval yi = vi) (hxj : a.eval xj = uj) (hyj : a.eval yj = vj) (hri : (Instr.makeSlice ti ui vi).run P w = .ok zi wi) (hrj : (Instr.makeSlice tj uj vj).run P w = .ok zj wj)
    (h1 : WA P md l.toArray Q fuel (listed.setIfInBounds i true) (a.put (some di) zi) wi) (h2 : WA P md l.toArray Q fuel (listed.setIfInBounds j true) (a.put (some dj) zj) wj) : WA P md l.toArray Q (fuel + 1) listed a w :=
  ⟨Rt.twoL i j hr hli hlj (Rt.wn hgi) (Rt.wn hgj) (wp_make hdi hoi hxi hyi hri ⟨trivial, h1.out⟩) (wp_make hdj hoj hxj hyj hrj ⟨trivial, h2.out⟩)⟩
theorem wa_box {t : TypeId} {x : Operand} {c : Array Value} {d : Nat} (i : Nat) (hr : Region.ready md l.toArray listed = [i]) (hl : l.drop i = o :: r) (hg : o.guard = none) (hd : o.dst = some d) (ho : o.op = .box t x) (hx : (a.eval x).cells = c)
    (h : WA P md l.toArray Q fuel (listed.setIfInBounds i true) (a.put (some d) (.pointer (some ⟨w.heap.size, 0, none⟩))) (w.alloc (.cells c t))) : WA P md l.toArray Q (fuel + 1) listed a w := ⟨Rt.oneL i hr hl (Rt.wn hg) (wp_boxd hd ho hx ⟨trivial, h.out⟩)⟩
theorem wa_store {x y : Operand} {ty : TypeId} {p : Option Addr} {u : Value} (b k i : Nat) (hr : Region.ready md l.toArray listed = [i]) (hl : l.drop i = o :: r) (hg : o.guard = none) (hd : o.dst = none) (ho : o.op = .store ty x y) (hx : a.eval x = .pointer (some ⟨b, k, none⟩)) (hy : a.eval y = .pointer p) (hz : (sizeOf ty).run P w = .ok 1 w) (hc : w.cell? ⟨b, k, none⟩ = some u) (hf : w.frozen? ⟨b, k, none⟩ = false)
    (h : WA P md l.toArray Q fuel (listed.setIfInBounds i true) a (w.setCell ⟨b, k, none⟩ (.pointer p))) : WA P md l.toArray Q (fuel + 1) listed a w := ⟨Rt.oneL i hr hl (Rt.wn hg) (wp_store_ptr b k hd ho hx hy hz hc hf ⟨trivial, h.out⟩)⟩
theorem wa_done {ops : Array Oper} (hr : Region.ready md ops listed = []) (h : Q .normal a w) : WA P md ops Q 0 listed a w := ⟨Rt.done hr h 0⟩
end
noncomputable def L1 : Code := cIn (cIn (cB (nth 16 c6)))

set_option maxRecDepth 100000 in
set_option maxHeartbeats 1600000 in
theorem t26 (Q : Exit → Act → World → Prop) (a : Act) (w : World) (rb s n : Nat) (hs4 : s < 4) (hn : n ≤ 1000) (h26 : a.tmps[26]? = some (.pointer (some ⟨rb, 0, none⟩))) (h27 : a.tmps[27]? = some (.int .i64 (s : Nat))) (h18 : a.tmps[18]? = some (.int .i64 (n : Nat))) (u : Value) (C : Array Value) (hC : w.heap[rb]? = some (.cells C 72 (0, 0))) (hu : C[97 + s]? = some u) (F : Fz a)
    (k : ∀ a' hb gb w3, Fz a' → Same [0, 1, 2, 3, 4, 5, 6, 7, 17, 18, 19, 20, 21, 22, 23, 24, 25, 26, 27] a a' → w.heap.size ≤ hb → w.heap.size ≤ gb → hb ≠ gb → hb < w3.heap.size → gb < w3.heap.size → w3.heap[hb]? = some (.cells (List.replicate n (Value.bool false)).toArray 4 (0, 0)) → w3.heap[gb]? = some (.cells (List.replicate n (Value.slice none 0 0)).toArray 37 (0, 0)) → Below w.heap.size w w3 →
      Q .normal a' ((w3.alloc (.cells #[.slice (some ⟨hb, 0, none⟩) n n, .int .i64 0, .slice (some ⟨gb, 0, none⟩) n n] 103)).setCell ⟨rb, 97 + s, none⟩ (.pointer (some ⟨w3.heap.size, 0, none⟩)))) : (cA (cB L1)).wp Yba.prog Q a w := by
  simp only [L1, nth, c6, Yba.f6, Option.getD, nB, cA, cB, cIn]
  have hs := F.sz
  have v26 := ev_of h26
  have v27 := ev_of h27
  have v18 := ev_of h18
  have FF : Hid (Fz a) := F
  have rlt := (Array.getElem?_eq_some_iff.1 hC).1
  have K : Hid (∀ a' hb gb w3, Fz a' → Same [0, 1, 2, 3, 4, 5, 6, 7, 17, 18, 19, 20, 21, 22, 23, 24, 25, 26, 27] a a' → w.heap.size ≤ hb → w.heap.size ≤ gb → hb ≠ gb → hb < w3.heap.size → gb < w3.heap.size → w3.heap[hb]? = some (.cells (List.replicate n (Value.bool false)).toArray 4 (0, 0)) → w3.heap[gb]? = some (.cells (List.replicate n (Value.slice none 0 0)).toArray 37 (0, 0)) → Below w.heap.size w w3 →
      Q .normal a' ((w3.alloc (.cells #[.slice (some ⟨hb, 0, none⟩) n n, .int .i64 0, .slice (some ⟨gb, 0, none⟩) n n] 103)).setCell ⟨rb, 97 + s, none⟩ (.pointer (some ⟨w3.heap.size, 0, none⟩)))) := k
  clear k F
  have CE : ∀ w3, Below w.heap.size w w3 → ∀ o, (w3.alloc o).cell? ⟨rb, 97 + s, none⟩ = some u ∧ (w3.alloc o).frozen? ⟨rb, 97 + s, none⟩ = false := fun w3 hb o => by
    have h3 := below_heap hb rlt hC
    have h4 : (w3.alloc o).heap[rb]? = some (.cells C 72 (0, 0)) := (Below.heap_alloc w3 o rb (Nat.lt_of_lt_of_le rlt hb.size)).trans h3
    exact ⟨heap_cell h4 hu, Bk.fz (ρ := fun _ => 0) (r := 0) ⟨h4, rfl⟩ _⟩
  clear hC hu
  have z0 : ∀ o, Below w.heap.size w (w.drew.alloc o) := fun o => (Below.refl _ w).drew.alloc (Nat.le_refl _) o
  have z1 : ∀ o o', Below w.heap.size w ((w.drew.alloc o).alloc o') := fun o o' => (z0 o).alloc (z0 o).size o'
  have z2 : ∀ o, (w.drew.alloc o).heap.size = w.heap.size + 1 := fun o => by
    show (w.heap.push o).size = _
    simp
  have z3 : ∀ o o', ((w.drew.alloc o).alloc o').heap.size = w.heap.size + 2 := fun o o' => by
    show ((w.heap.push o).push o').size = _
    simp
  have z4 : ∀ o o', ((w.drew.alloc o).alloc o').heap[w.heap.size]? = some o := fun o o' => by
    show ((w.heap.push o).push o')[w.heap.size]? = _
    simp [Array.getElem?_push]
  have z5 : ∀ o o', ((w.drew.alloc o).alloc o').heap[(w.drew.alloc o).heap.size]? = some o' := fun _ _ => heap_alloc_new _ _
  refine wp_block ?_
  refine wa_region [some (.pointer (some ⟨rb, 0, none⟩)), some (.int .i64 (s : Nat)), some (.int .i64 (n : Nat)), none, none, some (.int .i64 (n : Nat)), none, none, none, some (.pointer (some ⟨rb, 0, none⟩)), some (.pointer (some ⟨rb, 97, none⟩))] 7
    (by kernel_rfl) (by kernel_rfl) (by kernel_rfl) (by kernel_rfl) (by kernel_rfl) ?_ ?_
  · refine Rt.yc (Rt.y_move (Rt.wn rfl) rfl (by simp only [Rt.putL, ev_same, ev_ne, ev_c, sz_put, hs, ne_eq, Nat.reduceEqDiff, not_false_eq_true, Nat.reduceLT, v26, v27, v18]; first | done | rfl)) ?_
    refine Rt.yc (Rt.y_move (Rt.wn rfl) rfl (by simp only [Rt.putL, ev_same, ev_ne, ev_c, sz_put, hs, ne_eq, Nat.reduceEqDiff, not_false_eq_true, Nat.reduceLT, v26, v27, v18]; first | done | rfl)) ?_
    refine Rt.yc (Rt.y_move (Rt.wn rfl) rfl (by simp only [Rt.putL, ev_same, ev_ne, ev_c, sz_put, hs, ne_eq, Nat.reduceEqDiff, not_false_eq_true, Nat.reduceLT, v26, v27, v18]; first | done | rfl)) ?_
    refine Rt.yn (Rt.yn ?_)
    refine Rt.yc (Rt.y_move (Rt.wn rfl) rfl (by simp only [Rt.putL, ev_same, ev_ne, ev_c, sz_put, hs, ne_eq, Nat.reduceEqDiff, not_false_eq_true, Nat.reduceLT, v26, v27, v18]; first | done | rfl)) ?_
    refine Rt.yn (Rt.yn (Rt.yn ?_))
    refine Rt.yc (Rt.y_nil (Rt.wn rfl) rfl (by simp only [Rt.putL, ev_same, ev_ne, ev_c, sz_put, hs, ne_eq, Nat.reduceEqDiff, not_false_eq_true, Nat.reduceLT, v26, v27, v18]; first | done | rfl)) ?_
    refine Rt.yc (Rt.y_field 3 0 (Rt.wn rfl) rfl (by simp only [Rt.putL, ev_same, ev_ne, ev_c, sz_put, hs, ne_eq, Nat.reduceEqDiff, not_false_eq_true, Nat.reduceLT, v26, v27, v18]; first | done | rfl) Yba.underlying72 rfl (by kernel_rfl) rfl) ?_
    exact Rt.ye
  refine wa_make2 3 6 (by kernel_rfl) rfl rfl rfl rfl rfl rfl rfl rfl (by simp only [Rt.putL, ev_same, ev_ne, ev_c, sz_put, hs, ne_eq, Nat.reduceEqDiff, not_false_eq_true, Nat.reduceLT, v26, v27, v18]; first | done | rfl) (by simp only [Rt.putL, ev_same, ev_ne, ev_c, sz_put, hs, ne_eq, Nat.reduceEqDiff, not_false_eq_true, Nat.reduceLT, v26, v27, v18]; first | done | rfl) (by simp only [Rt.putL, ev_same, ev_ne, ev_c, sz_put, hs, ne_eq, Nat.reduceEqDiff, not_false_eq_true, Nat.reduceLT, v26, v27, v18]; first | done | rfl) (by simp only [Rt.putL, ev_same, ev_ne, ev_c, sz_put, hs, ne_eq, Nat.reduceEqDiff, not_false_eq_true, Nat.reduceLT, v26, v27, v18]; first | done | rfl) (mk99 n hn w.drew) (mk76 n hn w.drew) ?_ ?_
  · skip
    refine wa_more [none, none, none, none, some (.agg #[.slice (some ⟨w.heap.size, 0, none⟩) n n, .int .i64 0])] 5 (by kernel_rfl) (by kernel_rfl) (by kernel_rfl) (by kernel_rfl) ?_ ?_
    · refine Rt.yn (Rt.yn (Rt.yn (Rt.yn (?_))))
      refine Rt.yc (Rt.y_build (built101 _ _ _ _ rfl) (Rt.wn rfl) rfl (by simp only [List.map_toArray, List.map_cons, List.map_nil, Rt.putL, ev_same, ev_ne, ev_c, sz_put, hs, ne_eq, Nat.reduceEqDiff, not_false_eq_true, Nat.reduceLT]; first | done | rfl)) ?_
      exact Rt.ye
    refine wa_make 6 (by kernel_rfl) rfl rfl rfl rfl (by simp only [Rt.putL, ev_same, ev_ne, ev_c, sz_put, hs, ne_eq, Nat.reduceEqDiff, not_false_eq_true, Nat.reduceLT]; first | done | rfl) (by simp only [Rt.putL, ev_same, ev_ne, ev_c, sz_put, hs, ne_eq, Nat.reduceEqDiff, not_false_eq_true, Nat.reduceLT]; first | done | rfl) (mk76 n hn _) ?_
    refine wa_more [none, none, none, none, none, none, none, some (.agg #[.slice (some ⟨w.heap.size, 0, none⟩) n n, .int .i64 0, .slice (some ⟨(w.drew.alloc (.cells (List.replicate n (Value.bool false)).toArray 4)).heap.size, 0, none⟩) n n])] 3 (by kernel_rfl) (by kernel_rfl) (by kernel_rfl) (by kernel_rfl) ?_ ?_
    · refine Rt.yn (Rt.yn (Rt.yn (Rt.yn (Rt.yn (Rt.yn (Rt.yn (?_)))))))
      refine Rt.yc (Rt.y_build (built103 _ _ _ _ _ _ _ _ rfl rfl) (Rt.wn rfl) rfl (by simp only [List.map_toArray, List.map_cons, List.map_nil, Rt.putL, ev_same, ev_ne, ev_c, sz_put, hs, ne_eq, Nat.reduceEqDiff, not_false_eq_true, Nat.reduceLT]; first | done | rfl)) ?_
      exact Rt.ye
    refine wa_box (c := #[.slice (some ⟨w.heap.size, 0, none⟩) n n, .int .i64 0, .slice (some ⟨(w.drew.alloc (.cells (List.replicate n (Value.bool false)).toArray 4)).heap.size, 0, none⟩) n n]) 8 (by kernel_rfl) rfl rfl rfl rfl (by simp only [Rt.putL, ev_same, ev_ne, ev_c, sz_put, hs, ne_eq, Nat.reduceEqDiff, not_false_eq_true, Nat.reduceLT, Value.cells]) ?_
    refine wa_more [none, none, none, none, none, none, none, none, none, none, none, some (.pointer (some ⟨rb, 97 + s, none⟩))] 1 (by kernel_rfl) (by kernel_rfl) (by kernel_rfl) (by kernel_rfl) ?_ ?_
    · refine Rt.yn (Rt.yn (Rt.yn (Rt.yn (Rt.yn (Rt.yn (Rt.yn (Rt.yn (Rt.yn (Rt.yn (Rt.yn (?_)))))))))))
      refine Rt.yc (y_index56 rb s hs4 (Rt.wn rfl) rfl (by simp only [Rt.putL, ev_same, ev_ne, ev_c, sz_put, hs, ne_eq, Nat.reduceEqDiff, not_false_eq_true, Nat.reduceLT]; first | done | rfl) (by simp only [Rt.putL, ev_same, ev_ne, ev_c, sz_put, hs, ne_eq, Nat.reduceEqDiff, not_false_eq_true, Nat.reduceLT]; first | done | rfl)) ?_
      exact Rt.ye
    refine wa_store rb (97 + s) 12 (by kernel_rfl) rfl rfl rfl rfl (by simp only [Rt.putL, ev_same, ev_ne, ev_c, sz_put, hs, ne_eq, Nat.reduceEqDiff, not_false_eq_true, Nat.reduceLT]; first | done | rfl) (by simp only [Rt.putL, ev_same, ev_ne, ev_c, sz_put, hs, ne_eq, Nat.reduceEqDiff, not_false_eq_true, Nat.reduceLT]; first | done | rfl) (size55 _) (CE _ (z1 _ _) _).1 (CE _ (z1 _ _) _).2 ?_
    refine wa_done (by kernel_rfl) ?_
    simp only [Exit.inBlock]
    refine K.out _ _ _ _ ?_ ?_ (Nat.le_refl _) (by rw [z2]; omega) (by rw [z2]; omega) (by rw [z3]; omega) (by rw [z3, z2]; omega) (z4 _ _) (z5 _ _) (z1 _ _)
    · simp only [Rt.putL, Act.put]
      (repeat (refine Fz.set ?_ _ _))
      exact FF.out
    · simp only [Rt.putL, Act.put]
      (repeat (refine Same.set ?_ _ _ (by decide)))
      exact Same.refl _ _
  · skip
    refine wa_make 3 (by kernel_rfl) rfl rfl rfl rfl (by simp only [Rt.putL, ev_same, ev_ne, ev_c, sz_put, hs, ne_eq, Nat.reduceEqDiff, not_false_eq_true, Nat.reduceLT]; first | done | rfl) (by simp only [Rt.putL, ev_same, ev_ne, ev_c, sz_put, hs, ne_eq, Nat.reduceEqDiff, not_false_eq_true, Nat.reduceLT]; first | done | rfl) (mk99 n hn _) ?_
    refine wa_more [none, none, none, none, some (.agg #[.slice (some ⟨(w.drew.alloc (.cells (List.replicate n (Value.slice none 0 0)).toArray 37)).heap.size, 0, none⟩) n n, .int .i64 0]), none, none, some (.agg #[.slice (some ⟨(w.drew.alloc (.cells (List.replicate n (Value.slice none 0 0)).toArray 37)).heap.size, 0, none⟩) n n, .int .i64 0, .slice (some ⟨w.heap.size, 0, none⟩) n n])] 3 (by kernel_rfl) (by kernel_rfl) (by kernel_rfl) (by kernel_rfl) ?_ ?_
    · refine Rt.yn (Rt.yn (Rt.yn (Rt.yn (?_))))
      refine Rt.yc (Rt.y_build (built101 _ _ _ _ rfl) (Rt.wn rfl) rfl (by simp only [List.map_toArray, List.map_cons, List.map_nil, Rt.putL, ev_same, ev_ne, ev_c, sz_put, hs, ne_eq, Nat.reduceEqDiff, not_false_eq_true, Nat.reduceLT]; first | done | rfl)) ?_
      refine Rt.yn (Rt.yn ?_)
      refine Rt.yc (Rt.y_build (built103 _ _ _ _ _ _ _ _ rfl rfl) (Rt.wn rfl) rfl (by simp only [List.map_toArray, List.map_cons, List.map_nil, Rt.putL, ev_same, ev_ne, ev_c, sz_put, hs, ne_eq, Nat.reduceEqDiff, not_false_eq_true, Nat.reduceLT]; first | done | rfl)) ?_
      exact Rt.ye
    refine wa_box (c := #[.slice (some ⟨(w.drew.alloc (.cells (List.replicate n (Value.slice none 0 0)).toArray 37)).heap.size, 0, none⟩) n n, .int .i64 0, .slice (some ⟨w.heap.size, 0, none⟩) n n]) 8 (by kernel_rfl) rfl rfl rfl rfl (by simp only [Rt.putL, ev_same, ev_ne, ev_c, sz_put, hs, ne_eq, Nat.reduceEqDiff, not_false_eq_true, Nat.reduceLT, Value.cells]) ?_
    refine wa_more [none, none, none, none, none, none, none, none, none, none, none, some (.pointer (some ⟨rb, 97 + s, none⟩))] 1 (by kernel_rfl) (by kernel_rfl) (by kernel_rfl) (by kernel_rfl) ?_ ?_
    · refine Rt.yn (Rt.yn (Rt.yn (Rt.yn (Rt.yn (Rt.yn (Rt.yn (Rt.yn (Rt.yn (Rt.yn (Rt.yn (?_)))))))))))
      refine Rt.yc (y_index56 rb s hs4 (Rt.wn rfl) rfl (by simp only [Rt.putL, ev_same, ev_ne, ev_c, sz_put, hs, ne_eq, Nat.reduceEqDiff, not_false_eq_true, Nat.reduceLT]; first | done | rfl) (by simp only [Rt.putL, ev_same, ev_ne, ev_c, sz_put, hs, ne_eq, Nat.reduceEqDiff, not_false_eq_true, Nat.reduceLT]; first | done | rfl)) ?_
      exact Rt.ye
    refine wa_store rb (97 + s) 12 (by kernel_rfl) rfl rfl rfl rfl (by simp only [Rt.putL, ev_same, ev_ne, ev_c, sz_put, hs, ne_eq, Nat.reduceEqDiff, not_false_eq_true, Nat.reduceLT]; first | done | rfl) (by simp only [Rt.putL, ev_same, ev_ne, ev_c, sz_put, hs, ne_eq, Nat.reduceEqDiff, not_false_eq_true, Nat.reduceLT]; first | done | rfl) (size55 _) (CE _ (z1 _ _) _).1 (CE _ (z1 _ _) _).2 ?_
    refine wa_done (by kernel_rfl) ?_
    simp only [Exit.inBlock]
    refine K.out _ _ _ _ ?_ ?_ (by rw [z2]; omega) (Nat.le_refl _) (by rw [z2]; omega) (by rw [z3, z2]; omega) (by rw [z3]; omega) (z5 _ _) (z4 _ _) (z1 _ _)
    · simp only [Rt.putL, Act.put]
      (repeat (refine Fz.set ?_ _ _))
      exact FF.out
    · simp only [Rt.putL, Act.put]
      (repeat (refine Same.set ?_ _ _ (by decide)))
      exact Same.refl _ _
end Go.Proofs.Ybulkcsck.Ga
