/-
  OWN TEXT. LawS4690CGather: the set-up: the law's own rows
-/
import Derived.Test.YbulkcsckGbQ
set_option linter.unusedSimpArgs false
set_option linter.unusedVariables false
namespace Go.Proofs.Ybulkcsck.Ga
open Go.RowKit

theorem wpList_make {P : Program} {ops : Array Oper} {rest : List Oper} {o : Oper} {a : Act} {Q : Exit → Act → World → Prop} {t : TypeId} {x y : Operand} {u v z : Value} {d : Nat} {w w' : World} (hgd : o.guard = none) (hd : o.dst = some d) (ho : o.op = .makeSlice t x y) (hx : a.eval x = u) (hy : a.eval y = v) (hr : (Instr.makeSlice t u v).run P w = .ok z w')
    (h : wpList P ops Q rest (a.put (some d) z) w') : wpList P ops Q (o :: rest) a w := wpList_plain hgd fun _ hK => wp_make hd ho hx hy hr (hK _ _ h)
theorem wpList_store_sl {P : Program} {ops : Array Oper} {rest : List Oper} {o : Oper} {a : Act} {Q : Exit → Act → World → Prop} {ty : TypeId} {x y : Operand} {p : Option Addr} {n c : Nat} {w : World} {u : Value} (b i : Nat) (hgd : o.guard = none) (hd : o.dst = none) (ho : o.op = .store ty x y) (hx : a.eval x = .pointer (some ⟨b, i, none⟩)) (hy : a.eval y = .slice p n c) (hz : (sizeOf ty).run P w = .ok 1 w) (hc : w.cell? ⟨b, i, none⟩ = some u) (hf : w.frozen? ⟨b, i, none⟩ = false)
    (h : wpList P ops Q rest a (w.setCell ⟨b, i, none⟩ (.slice p n c))) : wpList P ops Q (o :: rest) a w := wpList_plain hgd fun _ hK => wp_store1 b i ho hx hy hz hc hf (by rw [hd]; exact hK _ _ h)
theorem size99 (w : World) : (sizeOf 99).run Yba.prog w = .ok 1 w := by kernel_rfl
theorem size60 (w : World) : (sizeOf 60).run Yba.prog w = .ok 1 w := by kernel_rfl

set_option maxRecDepth 100000 in
set_option maxHeartbeats 1600000 in
theorem t35 (Q : Exit → Act → World → Prop) (a : Act) (w : World) (b s n : Nat) (hs4 : s < 4) (hn : n ≤ 1000) (h30 : a.tmps[30]? = some (.pointer (some ⟨b, 0, none⟩))) (h33 : a.tmps[33]? = some (.int .i64 (s : Nat))) (h18 : a.tmps[18]? = some (.int .i64 (n : Nat))) (u : Value) (hc : (w.alloc (.cells (List.replicate n (Value.bool false)).toArray 4)).cell? ⟨b, s, none⟩ = some u) (hf : (w.alloc (.cells (List.replicate n (Value.bool false)).toArray 4)).frozen? ⟨b, s, none⟩ = false) (F : Fz a)
    (k : ∀ a', Fz a' → Same [0, 1, 2, 3, 4, 5, 6, 7, 17, 18, 19, 20, 21, 22, 23, 24, 25, 26, 28, 29, 30, 31, 32, 33] a a' → Q .normal a' ((w.alloc (.cells (List.replicate n (Value.bool false)).toArray 4)).setCell ⟨b, s, none⟩ (.slice (some ⟨w.heap.size, 0, none⟩) n n))) : (cA (cIn (cA (cB L3)))).wp Yba.prog Q a w := by
  simp only [L1, L3, nth, c6, Yba.f6, Option.getD, nB, cA, cB, cIn]
  have hs := F.sz
  obtain ⟨p18, h18'⟩ := sl h18
  obtain ⟨p30, h30'⟩ := sl h30
  obtain ⟨p33, h33'⟩ := sl h33
  have FF : Hid (Fz a) := F
  have K : Hid _ := k
  clear k F
  have HM : Hid _ := mk99 n hn w
  have HC : Hid ((w.alloc (.cells (List.replicate n (Value.bool false)).toArray 4)).cell? ⟨b, s, none⟩ = some u) := hc
  have HF : Hid ((w.alloc (.cells (List.replicate n (Value.bool false)).toArray 4)).frozen? ⟨b, s, none⟩ = false) := hf
  have s4 : (s : Int) < 4 := by omega
  clear hc hf
  refine wp_region_lit ?_
  iterate 2 (refine wpList_val rfl _ (by simp [go_sem, execOp, Act.eval, Act.put, hs, h33', h18']; first | done | rfl) ?_)
  refine wpList_make rfl rfl rfl (by simp [Act.eval, Act.put, hs]) (by simp [Act.eval, Act.put, hs]) HM.out ?_
  clear HM
  generalize hO : w.alloc (.cells (List.replicate n (Value.bool false)).toArray 4) = w1 at *
  refine wpList_val rfl _ (by simp [go_sem, execOp, Act.eval, Act.put, hs, h30', hs4, s4]; first | done | rfl) ?_
  refine wpList_store_sl (p := some ⟨w.heap.size, 0, none⟩) (n := n) (c := n) b s rfl rfl rfl (by simp [Act.eval, Act.put, hs]) (by simp [Act.eval, Act.put, hs]) (size99 _) HC.out HF.out ?_
  refine wpList_nil ?_
  simp only [Act.put]
  refine K.out _ ?_ ?_ 
  · (repeat (refine Fz.set ?_ _ _))
    exact FF.out
  · (repeat (refine Same.set ?_ _ _ (by decide)))
    exact Same.refl _ _
set_option maxRecDepth 100000 in
set_option maxHeartbeats 1600000 in
theorem t36 (Q : Exit → Act → World → Prop) (a : Act) (w : World) (b s n : Nat) (hs4 : s < 4) (hn : n ≤ 1000) (h31 : a.tmps[31]? = some (.pointer (some ⟨b, 0, none⟩))) (h33 : a.tmps[33]? = some (.int .i64 (s : Nat))) (h18 : a.tmps[18]? = some (.int .i64 (n : Nat))) (u : Value) (hc : (w.alloc (.cells (List.replicate n (Value.int .i64 0)).toArray 3)).cell? ⟨b, s, none⟩ = some u) (hf : (w.alloc (.cells (List.replicate n (Value.int .i64 0)).toArray 3)).frozen? ⟨b, s, none⟩ = false) (F : Fz a)
    (k : ∀ a', Fz a' → Same [0, 1, 2, 3, 4, 5, 6, 7, 17, 18, 19, 20, 21, 22, 23, 24, 25, 26, 28, 29, 30, 31, 32, 33] a a' → Q .normal a' ((w.alloc (.cells (List.replicate n (Value.int .i64 0)).toArray 3)).setCell ⟨b, s, none⟩ (.slice (some ⟨w.heap.size, 0, none⟩) n n))) : (cB (cIn (cA (cB L3)))).wp Yba.prog Q a w := by
  simp only [L1, L3, nth, c6, Yba.f6, Option.getD, nB, cA, cB, cIn]
  have hs := F.sz
  obtain ⟨p18, h18'⟩ := sl h18
  obtain ⟨p31, h31'⟩ := sl h31
  obtain ⟨p33, h33'⟩ := sl h33
  have FF : Hid (Fz a) := F
  have K : Hid _ := k
  clear k F
  have HM : Hid _ := mk60 n hn w
  have HC : Hid ((w.alloc (.cells (List.replicate n (Value.int .i64 0)).toArray 3)).cell? ⟨b, s, none⟩ = some u) := hc
  have HF : Hid ((w.alloc (.cells (List.replicate n (Value.int .i64 0)).toArray 3)).frozen? ⟨b, s, none⟩ = false) := hf
  have s4 : (s : Int) < 4 := by omega
  clear hc hf
  refine wp_region_lit ?_
  iterate 2 (refine wpList_val rfl _ (by simp [go_sem, execOp, Act.eval, Act.put, hs, h33', h18']; first | done | rfl) ?_)
  refine wpList_make rfl rfl rfl (by simp [Act.eval, Act.put, hs]) (by simp [Act.eval, Act.put, hs]) HM.out ?_
  clear HM
  generalize hO : w.alloc (.cells (List.replicate n (Value.int .i64 0)).toArray 3) = w1 at *
  refine wpList_val rfl _ (by simp [go_sem, execOp, Act.eval, Act.put, hs, h31', hs4, s4]; first | done | rfl) ?_
  refine wpList_store_sl (p := some ⟨w.heap.size, 0, none⟩) (n := n) (c := n) b s rfl rfl rfl (by simp [Act.eval, Act.put, hs]) (by simp [Act.eval, Act.put, hs]) (size60 _) HC.out HF.out ?_
  refine wpList_nil ?_
  simp only [Act.put]
  refine K.out _ ?_ ?_ 
  · (repeat (refine Fz.set ?_ _ _))
    exact FF.out
  · (repeat (refine Same.set ?_ _ _ (by decide)))
    exact Same.refl _ _
set_option maxRecDepth 100000 in
set_option maxHeartbeats 1600000 in
theorem s37 (Q : Exit → Act → World → Prop) (a : Act) (w : World)  (F : Fz a)
    (k : ∀ a', Fz a' → Same [0, 1, 2, 3, 4, 5, 6, 7, 17, 18, 19, 20, 21, 22, 23, 24, 25, 26, 28, 29, 30, 31, 32] a a' → a'.tmps[34]? = some (.slice none 0 0) → Q .normal a' w) : (nth 23 c6).wp Yba.prog Q a w := by
  simp only [L1, L3, nth, c6, Yba.f6, Option.getD, nB, cA, cB, cIn]
  have hs := F.sz
  have FF : Hid (Fz a) := F
  have K : Hid _ := k
  clear k F
  go_wp2
  refine K.out _ ?_ ?_ (by simp [hs])
  · (repeat (refine Fz.set ?_ _ _))
    exact FF.out
  · (repeat (refine Same.set ?_ _ _ (by decide)))
    exact Same.refl _ _
set_option maxRecDepth 100000 in
set_option maxHeartbeats 1600000 in
theorem s38 (Q : Exit → Act → World → Prop) (a : Act) (w : World)  (F : Fz a)
    (k : ∀ a', Fz a' → Same [0, 1, 2, 3, 4, 5, 6, 7, 17, 18, 19, 20, 21, 22, 23, 24, 25, 26, 28, 29, 30, 31, 32, 34] a a' → a'.tmps[35]? = some (.slice none 0 0) → Q .normal a' w) : (nth 24 c6).wp Yba.prog Q a w := by
  simp only [L1, L3, nth, c6, Yba.f6, Option.getD, nB, cA, cB, cIn]
  have hs := F.sz
  have FF : Hid (Fz a) := F
  have K : Hid _ := k
  clear k F
  go_wp2
  refine K.out _ ?_ ?_ (by simp [hs])
  · (repeat (refine Fz.set ?_ _ _))
    exact FF.out
  · (repeat (refine Same.set ?_ _ _ (by decide)))
    exact Same.refl _ _
set_option maxRecDepth 100000 in
set_option maxHeartbeats 1600000 in
theorem s39 (Q : Exit → Act → World → Prop) (a : Act) (w : World)  (F : Fz a)
    (k : ∀ a', Fz a' → Same [0, 1, 2, 3, 4, 5, 6, 7, 17, 18, 19, 20, 21, 22, 23, 24, 25, 26, 28, 29, 30, 31, 32, 34, 35] a a' → a'.tmps[36]? = some (.slice none 0 0) → Q .normal a' w) : (nth 25 c6).wp Yba.prog Q a w := by
  simp only [L1, L3, nth, c6, Yba.f6, Option.getD, nB, cA, cB, cIn]
  have hs := F.sz
  have FF : Hid (Fz a) := F
  have K : Hid _ := k
  clear k F
  go_wp2
  refine K.out _ ?_ ?_ (by simp [hs])
  · (repeat (refine Fz.set ?_ _ _))
    exact FF.out
  · (repeat (refine Same.set ?_ _ _ (by decide)))
    exact Same.refl _ _
set_option maxRecDepth 100000 in
set_option maxHeartbeats 1600000 in
theorem s40 (Q : Exit → Act → World → Prop) (a : Act) (w : World)  (F : Fz a)
    (k : ∀ a', Fz a' → Same [0, 1, 2, 3, 4, 5, 6, 7, 17, 18, 19, 20, 21, 22, 23, 24, 25, 26, 28, 29, 30, 31, 32, 34, 35, 36] a a' → a'.tmps[37]? = some (.slice none 0 0) → Q .normal a' w) : (nth 26 c6).wp Yba.prog Q a w := by
  simp only [L1, L3, nth, c6, Yba.f6, Option.getD, nB, cA, cB, cIn]
  have hs := F.sz
  have FF : Hid (Fz a) := F
  have K : Hid _ := k
  clear k F
  go_wp2
  refine K.out _ ?_ ?_ (by simp [hs])
  · (repeat (refine Fz.set ?_ _ _))
    exact FF.out
  · (repeat (refine Same.set ?_ _ _ (by decide)))
    exact Same.refl _ _
end Go.Proofs.Ybulkcsck.Ga
