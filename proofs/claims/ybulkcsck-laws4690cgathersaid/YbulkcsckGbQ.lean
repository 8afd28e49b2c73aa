/-
  OWN TEXT. LawS4690CGather: the set-up: the blocks
-/
import Derived.Test.YbulkcsckGbO
set_option linter.unusedSimpArgs false
set_option linter.unusedVariables false
namespace Go.Proofs.Ybulkcsck.Ga
open Go.RowKit

noncomputable def L3 : Code := cIn (cIn (cB (nth 22 c6)))
def bidOf (tg md : Int) : List Int := tg :: (List.replicate 30 0 ++ [md])
theorem alloc30 (w : World) : (Instr.alloc 30 true (.tuple #[])).run Yba.prog w = .ok (.pointer (some ⟨w.heap.size, 0, none⟩)) (w.alloc (.cells (u8s (List.replicate 32 0)).toArray 30)) := by kernel_rfl
theorem alloc104 (w : World) : (Instr.alloc 104 true (.tuple #[])).run Yba.prog w = .ok (.pointer (some ⟨w.heap.size, 0, none⟩)) (w.alloc (.cells #[.slice none 0 0, .slice none 0 0, .slice none 0 0, .slice none 0 0] 104)) := by kernel_rfl
theorem alloc105 (w : World) : (Instr.alloc 105 true (.tuple #[])).run Yba.prog w = .ok (.pointer (some ⟨w.heap.size, 0, none⟩)) (w.alloc (.cells #[.slice none 0 0, .slice none 0 0, .slice none 0 0, .slice none 0 0] 105)) := by kernel_rfl
theorem alloc106 (w : World) : (Instr.alloc 106 true (.tuple #[])).run Yba.prog w = .ok (.pointer (some ⟨w.heap.size, 0, none⟩)) (w.alloc (.cells #[.int .i64 0, .int .i64 0, .int .i64 0, .int .i64 0] 106)) := by kernel_rfl
theorem built98 : Yba.prog.built 98 [] = some #[.nilIface, .bool false, .slice none 0 0, .slice none 0 0, .slice none 0 0] := by kernel_rfl
/-- the proposed block -/
theorem built44 (ep vw tg md : Int) : ∃ c : List Value, Yba.prog.built 44 [(0, .int .i64 ep), (1, .int .i64 vw), (2, .int .i64 1), (5, .agg (u8s (bidOf tg md)).toArray)] = some c.toArray ∧ c[0]? = some (.int .i64 ep) ∧ c[1]? = some (.int .i64 vw) ∧ (c.drop 36).take 32 = u8s (bidOf tg md) := by
  refine ⟨((Yba.prog.built 44 [(0, .int .i64 ep), (1, .int .i64 vw), (2, .int .i64 1), (5, .agg (u8s (bidOf tg md)).toArray)]).getD #[]).toList, ?_, ?_, ?_, ?_⟩
  · kernel_rfl
  · kernel_rfl
  · kernel_rfl
  · kernel_rfl
theorem built49 (n f : Int) (kb : Nat) : ∃ pay : Value, Yba.prog.built 49 [(0, .int .i64 n), (1, .int .i64 f), (2, .iface 96 (.pointer (some ⟨kb, 0, none⟩)))] = some #[.int .i64 n, .int .i64 f, .iface 96 (.pointer (some ⟨kb, 0, none⟩)), pay] := ⟨((Yba.prog.built 49 [(0, .int .i64 n), (1, .int .i64 f), (2, .iface 96 (.pointer (some ⟨kb, 0, none⟩)))]).getD #[]).getD 3 undef, by kernel_rfl⟩
/-- the replica's cells that the road comes to, at the start -/
structure RC0 (n f id kb : Nat) (ep vw wi : Int) (lv : Bool) (pb : Option Addr) (pay : Value) (C : Array Value) : Prop where
  v : ∀ s, 1 ≤ s → s ≤ 3 → ∃ u, C[97 + s]? = some u
  id : C[0]? = some (.int .i64 id)
  n : C[1]? = some (.int .i64 n)
  f : C[2]? = some (.int .i64 f)
  k : C[3]? = some (.iface 96 (.pointer (some ⟨kb, 0, none⟩)))
  pay : C[4]? = some pay
  vw : C[10]? = some (.int .i64 vw)
  wi : C[11]? = some (.int .i64 wi)
  lv : C[12]? = some (.bool lv)
  pb : C[96]? = some (.pointer pb)
  inb : C[102]? = some (.slice none 0 0)
  m : C[108]? = some (.map none)
  sn : C[109]? = some (.slice none 0 0)
theorem built72 (n f id kb : Nat) (ep vw wi : Int) (lv : Bool) (pb : Option Addr) (pay : Value) :
    ∃ C : Array Value, Yba.prog.built 72 [(0, .int .i64 id), (1, .agg #[.int .i64 n, .int .i64 f, .iface 96 (.pointer (some ⟨kb, 0, none⟩)), pay]), (4, .int .i64 ep), (6, .int .i64 vw), (7, .int .i64 wi), (8, .bool lv), (19, .pointer pb)] = some C ∧ RC0 n f id kb ep vw wi lv pb pay C := by
  refine ⟨(Yba.prog.built 72 [(0, .int .i64 id), (1, .agg #[.int .i64 n, .int .i64 f, .iface 96 (.pointer (some ⟨kb, 0, none⟩)), pay]), (4, .int .i64 ep), (6, .int .i64 vw), (7, .int .i64 wi), (8, .bool lv), (19, .pointer pb)]).getD #[], by kernel_rfl, ?_, by kernel_rfl, by kernel_rfl, by kernel_rfl, by kernel_rfl, by kernel_rfl, by kernel_rfl, by kernel_rfl, by kernel_rfl, by kernel_rfl, by kernel_rfl, by kernel_rfl, by kernel_rfl⟩
  intro s h1 h3
  rcases (by omega : s = 1 ∨ s = 2 ∨ s = 3) with rfl | rfl | rfl
  · exact ⟨.pointer none, by kernel_rfl⟩
  · exact ⟨.pointer none, by kernel_rfl⟩
  · exact ⟨.pointer none, by kernel_rfl⟩

set_option maxRecDepth 100000 in
set_option maxHeartbeats 1600000 in
theorem s15 (Q : Exit → Act → World → Prop) (a : Act) (w : World)  (F : Fz a)
    (k : ∀ a', Fz a' → Same [0, 1, 2, 3, 4, 5, 6, 7, 17, 18, 19, 20, 21, 22] a a' → a'.tmps[23]? = some (.pointer (some ⟨w.heap.size, 0, none⟩)) → Q .normal a' (w.alloc (.cells (u8s (List.replicate 32 0)).toArray 30))) : (nth 9 c6).wp Yba.prog Q a w := by
  simp only [L1, L3, nth, c6, Yba.f6, Option.getD, nB, cA, cB, cIn]
  have hs := F.sz
  have FF : Hid (Fz a) := F
  have K : Hid _ := k
  clear k F
  have AL : Hid _ := alloc30 w
  refine wp_region_lit ?_
  refine wpList_alloc rfl rfl AL.out ?_
  refine wpList_nil ?_
  simp only [Act.put]
  refine K.out _ ?_ ?_ (by simp [hs])
  · (repeat (refine Fz.set ?_ _ _))
    exact FF.out
  · (repeat (refine Same.set ?_ _ _ (by decide)))
    exact Same.refl _ _
set_option maxRecDepth 100000 in
set_option maxHeartbeats 1600000 in
theorem s16 (Q : Exit → Act → World → Prop) (a : Act) (w : World) (bb : Nat) (x : Int) (h23 : a.tmps[23]? = some (.pointer (some ⟨bb, 0, none⟩))) (h4 : a.tmps[4]? = some (.int .u8 x)) (u : Value) (hu : w.cell? ⟨bb, 0, none⟩ = some u) (hz : w.frozen? ⟨bb, 0, none⟩ = false) (F : Fz a)
    (k : ∀ a', Fz a' → Same [0, 1, 2, 3, 4, 5, 6, 7, 17, 18, 19, 20, 21, 22, 23] a a' → Q .normal a' (w.setCell ⟨bb, 0, none⟩ (.int .u8 x))) : (nth 10 c6).wp Yba.prog Q a w := by
  simp only [L1, L3, nth, c6, Yba.f6, Option.getD, nB, cA, cB, cIn]
  have hs := F.sz
  obtain ⟨p4, h4'⟩ := sl h4
  obtain ⟨p23, h23'⟩ := sl h23
  have FF : Hid (Fz a) := F
  have K : Hid _ := k
  clear k F
  go_wp2
  refine K.out _ ?_ ?_ 
  · (repeat (refine Fz.set ?_ _ _))
    exact FF.out
  · (repeat (refine Same.set ?_ _ _ (by decide)))
    exact Same.refl _ _
set_option maxRecDepth 100000 in
set_option maxHeartbeats 1600000 in
theorem s17 (Q : Exit → Act → World → Prop) (a : Act) (w : World) (bb : Nat) (x : Int) (h23 : a.tmps[23]? = some (.pointer (some ⟨bb, 0, none⟩))) (h3 : a.tmps[3]? = some (.int .u8 x)) (u : Value) (hu : w.cell? ⟨bb, 31, none⟩ = some u) (hz : w.frozen? ⟨bb, 31, none⟩ = false) (F : Fz a)
    (k : ∀ a', Fz a' → Same [0, 1, 2, 3, 4, 5, 6, 7, 17, 18, 19, 20, 21, 22, 23] a a' → Q .normal a' (w.setCell ⟨bb, 31, none⟩ (.int .u8 x))) : (nth 11 c6).wp Yba.prog Q a w := by
  simp only [L1, L3, nth, c6, Yba.f6, Option.getD, nB, cA, cB, cIn]
  have hs := F.sz
  obtain ⟨p3, h3'⟩ := sl h3
  obtain ⟨p23, h23'⟩ := sl h23
  have FF : Hid (Fz a) := F
  have K : Hid _ := k
  clear k F
  go_wp2
  refine K.out _ ?_ ?_ 
  · (repeat (refine Fz.set ?_ _ _))
    exact FF.out
  · (repeat (refine Same.set ?_ _ _ (by decide)))
    exact Same.refl _ _
set_option maxRecDepth 100000 in
set_option maxHeartbeats 1600000 in
theorem s18 (Q : Exit → Act → World → Prop) (a : Act) (w : World)  (F : Fz a)
    (k : ∀ a', Fz a' → Same [0, 1, 2, 3, 4, 5, 6, 7, 17, 18, 19, 20, 21, 22, 23] a a' → a'.tmps[24]? = some (.pointer none) → Q .normal a' w) : (nth 12 c6).wp Yba.prog Q a w := by
  simp only [L1, L3, nth, c6, Yba.f6, Option.getD, nB, cA, cB, cIn]
  have hs := F.sz
  have FF : Hid (Fz a) := F
  have K : Hid _ := k
  clear k F
  go_wp2
  refine K.out _ ?_ ?_ (by simp [hs])
  · (repeat (refine Fz.set ?_ _ _))
    exact FF.out
  · (repeat (refine Same.set ?_ _ _ (by decide)))
    exact Same.refl _ _
set_option maxRecDepth 100000 in
set_option maxHeartbeats 1600000 in
theorem s19n (Q : Exit → Act → World → Prop) (a : Act) (w : World) (h20 : a.tmps[20]? = some (.int .u8 ((15 : Nat) : Int))) (h24 : a.tmps[24]? = some (.pointer none)) (F : Fz a)
    (k : ∀ a', Fz a' → Same [0, 1, 2, 3, 4, 5, 6, 7, 17, 18, 19, 20, 21, 22, 23, 24] a a' → Q .normal a' w) : (nth 13 c6).wp Yba.prog Q a w := by
  simp only [L1, L3, nth, c6, Yba.f6, Option.getD, nB, cA, cB, cIn]
  have hs := F.sz
  obtain ⟨p20, h20'⟩ := sl h20
  obtain ⟨p24, h24'⟩ := sl h24
  have FF : Hid (Fz a) := F
  have K : Hid _ := k
  clear k F
  refine wp_seq_k fun KK hKK => ?_
  have HK : Hid _ := hKK
  clear hKK
  go_wp2
  refine HK.out _ _ ?_
  clear HK KK
  refine wp_cond_false (by simp [Act.eval, Act.put, hs]) ?_
  refine wp_skip ?_
  refine K.out _ ?_ ?_ 
  · (repeat (refine Fz.set ?_ _ _))
    exact FF.out
  · (repeat (refine Same.set ?_ _ _ (by decide)))
    exact Same.refl _ _
set_option maxRecDepth 100000 in
set_option maxHeartbeats 1600000 in
theorem s19y (Q : Exit → Act → World → Prop) (a : Act) (w : World) (y bb : Nat) (hy : y ≠ 15) (ep vw : Int) (bid : List Int) (hbl : bid.length = 32) (c : List Value) (hbu : Yba.prog.built 44 [(0, .int .i64 ep), (1, .int .i64 vw), (2, .int .i64 1), (5, .agg (u8s bid).toArray)] = some c.toArray) (h20 : a.tmps[20]? = some (.int .u8 (y : Nat))) (h5 : a.tmps[5]? = some (.int .i64 ep)) (h6 : a.tmps[6]? = some (.int .i64 vw)) (h23 : a.tmps[23]? = some (.pointer (some ⟨bb, 0, none⟩))) (hb : w.rangeAt bb 0 (u8s bid)) (F : Fz a)
    (k : ∀ a', Fz a' → Same [0, 1, 2, 3, 4, 5, 6, 7, 17, 18, 19, 20, 21, 22, 23] a a' → a'.tmps[24]? = some (.pointer (some ⟨w.heap.size, 0, none⟩)) → Q .normal a' (w.alloc (.cells c.toArray 44))) : (nth 13 c6).wp Yba.prog Q a w := by
  simp only [L1, L3, nth, c6, Yba.f6, Option.getD, nB, cA, cB, cIn]
  have hs := F.sz
  obtain ⟨p5, h5'⟩ := sl h5
  obtain ⟨p6, h6'⟩ := sl h6
  obtain ⟨p20, h20'⟩ := sl h20
  obtain ⟨p23, h23'⟩ := sl h23
  have FF : Hid (Fz a) := F
  have K : Hid _ := k
  clear k F
  have HB : Hid (w.rangeAt bb 0 (u8s bid)) := hb
  have HI : Hid ((Yba.prog.info? 30).map (·.size) = some (u8s bid).length) := inf30 hbl
  have BU : Hid (Yba.prog.built 44 [(0, .int .i64 ep), (1, .int .i64 vw), (2, .int .i64 1), (5, .agg (u8s bid).toArray)] = some c.toArray) := hbu
  have d1 : ((y : Int) != 15) = true := by simp; omega
  have d2 : ((y : Int) == 15) = false := by simp; omega
  clear hb hbl hbu hy
  refine wp_seq_k fun KK hKK => ?_
  have HK : Hid _ := hKK
  clear hKK
  go_wp2
  refine HK.out _ _ ?_
  clear HK KK
  refine wp_cond_true (by simp [Act.eval, Act.put, hs]) ?_
  refine wp_region_lit ?_
  iterate 2 (refine wpList_val rfl _ (by simp [go_sem, execOp, Act.eval, Act.put, hs, h5', h6']; first | done | rfl) ?_)
  refine wpList_load_mid rfl 30 (.tmp 23) rfl bb 0 (by simp [Act.eval, Act.put, hs, h23']) (u8s bid) _ HB.out Yba.underlying30 rfl HI.out ?_
  refine wpList_build_any rfl 44 rfl BU.out (by simp [Act.eval, Act.put, hs]) ?_
  refine wpList_box_any rfl 44 (.tmp 103) rfl (c := c.toArray) (by simp [Act.eval, Act.put, hs, Value.cells]) ?_
  refine wpList_val rfl _ (by simp [go_sem, execOp, Act.eval, Act.put, hs, h23']; first | done | rfl) ?_
  refine wpList_nil ?_
  simp only [Act.put]
  refine K.out _ ?_ ?_ (by simp [hs])
  · (repeat (refine Fz.set ?_ _ _))
    exact FF.out
  · (repeat (refine Same.set ?_ _ _ (by decide)))
    exact Same.refl _ _
set_option maxRecDepth 100000 in
set_option maxHeartbeats 1600000 in
theorem s21 (Q : Exit → Act → World → Prop) (a : Act) (w : World)  (F : Fz a)
    (k : ∀ a', Fz a' → Same [0, 1, 2, 3, 4, 5, 6, 7, 17, 18, 19, 20, 21, 22, 23, 24] a a' → a'.tmps[25]? = some (.pointer (some ⟨w.heap.size, 0, none⟩)) → Q .normal a' (w.alloc (.cells #[.nilIface, .bool false, .slice none 0 0, .slice none 0 0, .slice none 0 0] 98))) : (nth 14 c6).wp Yba.prog Q a w := by
  simp only [L1, L3, nth, c6, Yba.f6, Option.getD, nB, cA, cB, cIn]
  have hs := F.sz
  have FF : Hid (Fz a) := F
  have K : Hid _ := k
  clear k F
  have BU : Hid _ := built98
  refine wp_region_lit ?_
  refine wpList_build_any rfl 98 rfl BU.out (by simp) ?_
  refine wpList_box_any rfl 98 (.tmp 105) rfl (c := #[.nilIface, .bool false, .slice none 0 0, .slice none 0 0, .slice none 0 0]) (by simp [Act.eval, Act.put, hs, Value.cells]) ?_
  refine wpList_val rfl _ (by simp [go_sem, execOp, Act.eval, Act.put, hs, hs]; first | done | rfl) ?_
  refine wpList_nil ?_
  simp only [Act.put]
  refine K.out _ ?_ ?_ (by simp [hs])
  · (repeat (refine Fz.set ?_ _ _))
    exact FF.out
  · (repeat (refine Same.set ?_ _ _ (by decide)))
    exact Same.refl _ _
set_option maxRecDepth 100000 in
set_option maxHeartbeats 1600000 in
theorem s22 (Q : Exit → Act → World → Prop) (a : Act) (w : World) (n f id kb : Nat) (ep vw wi : Int) (lv : Bool) (pb : Option Addr) (pay : Value) (C : Array Value) (h49 : Yba.prog.built 49 [(0, .int .i64 (n : Nat)), (1, .int .i64 (f : Nat)), (2, .iface 96 (.pointer (some ⟨kb, 0, none⟩)))] = some #[.int .i64 (n : Nat), .int .i64 (f : Nat), .iface 96 (.pointer (some ⟨kb, 0, none⟩)), pay]) (h72 : Yba.prog.built 72 [(0, .int .i64 (id : Nat)), (1, .agg #[.int .i64 (n : Nat), .int .i64 (f : Nat), .iface 96 (.pointer (some ⟨kb, 0, none⟩)), pay]), (4, .int .i64 ep), (6, .int .i64 vw), (7, .int .i64 wi), (8, .bool lv), (19, .pointer pb)] = some C) (h19 : a.tmps[19]? = some (.int .i64 (id : Nat))) (h18 : a.tmps[18]? = some (.int .i64 (n : Nat))) (h17 : a.tmps[17]? = some (.int .i64 (f : Nat))) (h25 : a.tmps[25]? = some (.pointer (some ⟨kb, 0, none⟩))) (h5 : a.tmps[5]? = some (.int .i64 ep)) (h6 : a.tmps[6]? = some (.int .i64 vw)) (h21 : a.tmps[21]? = some (.int .i64 wi)) (h22 : a.tmps[22]? = some (.bool lv)) (h24 : a.tmps[24]? = some (.pointer pb)) (F : Fz a)
    (k : ∀ a', Fz a' → Same [0, 1, 2, 3, 4, 5, 6, 7, 17, 18, 19, 20, 21, 22, 23, 24, 25] a a' → a'.tmps[26]? = some (.pointer (some ⟨w.heap.size, 0, none⟩)) → Q .normal a' (w.alloc (.cells C 72))) : (nth 15 c6).wp Yba.prog Q a w := by
  simp only [L1, L3, nth, c6, Yba.f6, Option.getD, nB, cA, cB, cIn]
  have hs := F.sz
  obtain ⟨p5, h5'⟩ := sl h5
  obtain ⟨p6, h6'⟩ := sl h6
  obtain ⟨p17, h17'⟩ := sl h17
  obtain ⟨p18, h18'⟩ := sl h18
  obtain ⟨p19, h19'⟩ := sl h19
  obtain ⟨p21, h21'⟩ := sl h21
  obtain ⟨p22, h22'⟩ := sl h22
  obtain ⟨p24, h24'⟩ := sl h24
  obtain ⟨p25, h25'⟩ := sl h25
  have FF : Hid (Fz a) := F
  have K : Hid _ := k
  clear k F
  have B1 : Hid _ := h49
  have B2 : Hid _ := h72
  clear h49 h72
  refine wp_region_lit ?_
  iterate 5 (refine wpList_val rfl _ (by simp [go_sem, execOp, Act.eval, Act.put, hs, h19', h18', h17', h25']; first | done | rfl) ?_)
  refine wpList_build_any rfl 49 rfl B1.out (by simp [Act.eval, Act.put, hs]) ?_
  iterate 5 (refine wpList_val rfl _ (by simp [go_sem, execOp, Act.eval, Act.put, hs, h5', h6', h21', h22', h24']; first | done | rfl) ?_)
  refine wpList_build_any rfl 72 rfl B2.out (by simp [Act.eval, Act.put, hs]) ?_
  refine wpList_box_any rfl 72 (.tmp 118) rfl (c := C) (by simp [Act.eval, Act.put, hs, Value.cells]) ?_
  refine wpList_val rfl _ (by simp [go_sem, execOp, Act.eval, Act.put, hs, hs]; first | done | rfl) ?_
  refine wpList_nil ?_
  simp only [Act.put]
  refine K.out _ ?_ ?_ (by simp [hs])
  · (repeat (refine Fz.set ?_ _ _))
    exact FF.out
  · (repeat (refine Same.set ?_ _ _ (by decide)))
    exact Same.refl _ _
set_option maxRecDepth 100000 in
set_option maxHeartbeats 1600000 in
theorem t23 (Q : Exit → Act → World → Prop) (a : Act) (w : World)  (F : Fz a)
    (k : ∀ a', Fz a' → Same [0, 1, 2, 3, 4, 5, 6, 7, 17, 18, 19, 20, 21, 22, 23, 24, 25, 26] a a' → a'.tmps[27]? = some (.int .i64 ((1 : Nat) : Int)) → Q .normal a' w) : (cA (nth 16 c6)).wp Yba.prog Q a w := by
  simp only [L1, L3, nth, c6, Yba.f6, Option.getD, nB, cA, cB, cIn]
  have hs := F.sz
  have FF : Hid (Fz a) := F
  have K : Hid _ := k
  clear k F
  go_wp2
  refine K.out _ ?_ ?_ (by simp [hs])
  · (repeat (refine Fz.set ?_ _ _))
    exact FF.out
  · (repeat (refine Same.set ?_ _ _ (by decide)))
    exact Same.refl _ _
set_option maxRecDepth 100000 in
set_option maxHeartbeats 1600000 in
theorem t24y (Q : Exit → Act → World → Prop) (a : Act) (w : World) (s : Nat) (h27 : a.tmps[27]? = some (.int .i64 (s : Nat))) (hi : s ≤ 3) (F : Fz a)
    (k : ∀ a', Fz a' → Same [0, 1, 2, 3, 4, 5, 6, 7, 17, 18, 19, 20, 21, 22, 23, 24, 25, 26, 27] a a' → Q .normal a' w) : (cA L1).wp Yba.prog Q a w := by
  simp only [L1, L3, nth, c6, Yba.f6, Option.getD, nB, cA, cB, cIn]
  have hs := F.sz
  obtain ⟨p27, h27'⟩ := sl h27
  have FF : Hid (Fz a) := F
  have K : Hid _ := k
  clear k F
  have d1 : decide ((s : Int) ≤ 3) = true := decide_eq_true (by omega)
  refine wp_seq_k fun KK hKK => ?_
  have HK : Hid _ := hKK
  clear hKK
  go_wp2
  refine HK.out _ _ ?_
  clear HK KK
  refine wp_cond_true (by simp [Act.eval, Act.put, hs]) ?_
  refine wp_skip ?_
  refine K.out _ ?_ ?_ 
  · (repeat (refine Fz.set ?_ _ _))
    exact FF.out
  · (repeat (refine Same.set ?_ _ _ (by decide)))
    exact Same.refl _ _
set_option maxRecDepth 100000 in
set_option maxHeartbeats 1600000 in
theorem t24n (Q : Exit → Act → World → Prop) (a : Act) (w : World) (s : Nat) (h27 : a.tmps[27]? = some (.int .i64 (s : Nat))) (hi : ¬ s ≤ 3) (F : Fz a)
    (k : ∀ a', Fz a' → Same [0, 1, 2, 3, 4, 5, 6, 7, 17, 18, 19, 20, 21, 22, 23, 24, 25, 26, 27] a a' → Q (.exit 1) a' w) : (cA L1).wp Yba.prog Q a w := by
  simp only [L1, L3, nth, c6, Yba.f6, Option.getD, nB, cA, cB, cIn]
  have hs := F.sz
  obtain ⟨p27, h27'⟩ := sl h27
  have FF : Hid (Fz a) := F
  have K : Hid _ := k
  clear k F
  have d1 : decide ((s : Int) ≤ 3) = false := decide_eq_false (by omega)
  refine wp_seq_k fun KK hKK => ?_
  have HK : Hid _ := hKK
  clear hKK
  go_wp2
  refine HK.out _ _ ?_
  clear HK KK
  refine wp_cond_false (by simp [Act.eval, Act.put, hs]) ?_
  refine wp_exit ?_
  refine K.out _ ?_ ?_ 
  · (repeat (refine Fz.set ?_ _ _))
    exact FF.out
  · (repeat (refine Same.set ?_ _ _ (by decide)))
    exact Same.refl _ _
set_option maxRecDepth 100000 in
set_option maxHeartbeats 1600000 in
theorem t25 (Q : Exit → Act → World → Prop) (a : Act) (w : World) (i : Nat) (h27 : a.tmps[27]? = some (.int .i64 (i : Nat))) (hi : i ≤ 1000) (F : Fz a)
    (k : ∀ a', Fz a' → Same [0, 1, 2, 3, 4, 5, 6, 7, 17, 18, 19, 20, 21, 22, 23, 24, 25, 26] a a' → a'.tmps[27]? = some (.int .i64 ((i + 1 : Nat) : Int)) → Q .normal a' w) : (cB (cB L1)).wp Yba.prog Q a w := by
  simp only [L1, L3, nth, c6, Yba.f6, Option.getD, nB, cA, cB, cIn]
  have hs := F.sz
  obtain ⟨p27, h27'⟩ := sl h27
  have FF : Hid (Fz a) := F
  have K : Hid _ := k
  clear k F
  have w1 : IntKind.i64.wrap ((i : Int) + 1) = ((i + 1 : Nat) : Int) := by rw [wrap_small _ (by omega) (by omega)]; omega
  go_wp2
  refine K.out _ ?_ ?_ (by simp [hs])
  · (repeat (refine Fz.set ?_ _ _))
    exact FF.out
  · (repeat (refine Same.set ?_ _ _ (by decide)))
    exact Same.refl _ _
set_option maxRecDepth 100000 in
set_option maxHeartbeats 1600000 in
theorem s27 (Q : Exit → Act → World → Prop) (a : Act) (w : World) (vw wi : Int) (lv : Bool) (pb : Option Addr) (hp : pb = none ∨ ∃ bb, pb = some ⟨bb, 0, none⟩) (h24 : a.tmps[24]? = some (.pointer pb)) (h22 : a.tmps[22]? = some (.bool lv)) (h21 : a.tmps[21]? = some (.int .i64 wi)) (h6 : a.tmps[6]? = some (.int .i64 vw)) (F : Fz a)
    (k : ∀ a', Fz a' → Same [0, 1, 2, 3, 4, 5, 6, 7, 17, 18, 19, 20, 21, 22, 23, 24, 25, 26] a a' → a'.tmps[28]? = some (.bool (pb.isSome && (!lv && decide (wi ≤ vw)))) → Q .normal a' w) : (nth 17 c6).wp Yba.prog Q a w := by
  simp only [L1, L3, nth, c6, Yba.f6, Option.getD, nB, cA, cB, cIn]
  have hs := F.sz
  obtain ⟨p6, h6'⟩ := sl h6
  obtain ⟨p21, h21'⟩ := sl h21
  obtain ⟨p22, h22'⟩ := sl h22
  obtain ⟨p24, h24'⟩ := sl h24
  have FF : Hid (Fz a) := F
  have K : Hid _ := k
  clear k F
  rcases hp with rfl | ⟨bb, rfl⟩
  · go_wp2
    refine K.out _ ?_ ?_ (by simp [hs])
    · (repeat (refine Fz.set ?_ _ _))
      exact FF.out
    · (repeat (refine Same.set ?_ _ _ (by decide)))
      exact Same.refl _ _
  cases lv
  · by_cases hw : wi ≤ vw
    · have d1 : decide (wi ≤ vw) = true := decide_eq_true hw
      go_wp2
      refine K.out _ ?_ ?_ (by simp [hs, hw])
      · (repeat (refine Fz.set ?_ _ _))
        exact FF.out
      · (repeat (refine Same.set ?_ _ _ (by decide)))
        exact Same.refl _ _
    · have d1 : decide (wi ≤ vw) = false := decide_eq_false hw
      go_wp2
      refine K.out _ ?_ ?_ (by simp [hs, hw])
      · (repeat (refine Fz.set ?_ _ _))
        exact FF.out
      · (repeat (refine Same.set ?_ _ _ (by decide)))
        exact Same.refl _ _
  · go_wp2
    refine K.out _ ?_ ?_ (by simp [hs])
    · (repeat (refine Fz.set ?_ _ _))
      exact FF.out
    · (repeat (refine Same.set ?_ _ _ (by decide)))
      exact Same.refl _ _
set_option maxRecDepth 100000 in
set_option maxHeartbeats 1600000 in
theorem s28 (Q : Exit → Act → World → Prop) (a : Act) (w : World) (n f : Nat) (hf : f ≤ n) (hn : n ≤ 1000) (h18 : a.tmps[18]? = some (.int .i64 (n : Nat))) (h17 : a.tmps[17]? = some (.int .i64 (f : Nat))) (F : Fz a)
    (k : ∀ a', Fz a' → Same [0, 1, 2, 3, 4, 5, 6, 7, 17, 18, 19, 20, 21, 22, 23, 24, 25, 26, 28] a a' → a'.tmps[29]? = some (.int .i64 ((n - f : Nat) : Int)) → Q .normal a' w) : (nth 18 c6).wp Yba.prog Q a w := by
  simp only [L1, L3, nth, c6, Yba.f6, Option.getD, nB, cA, cB, cIn]
  have hs := F.sz
  obtain ⟨p17, h17'⟩ := sl h17
  obtain ⟨p18, h18'⟩ := sl h18
  have FF : Hid (Fz a) := F
  have K : Hid _ := k
  clear k F
  have w1 : IntKind.i64.wrap ((n : Int) - (f : Int)) = ((n - f : Nat) : Int) := by rw [wrap_small _ (by omega) (by omega)]; omega
  generalize ((n - f : Nat) : Int) = D at *
  refine wp_region_lit ?_
  iterate 4 (refine wpList_val rfl _ (by simp [go_sem, execOp, Act.eval, Act.put, hs, h17', h18', w1]; first | done | rfl) ?_)
  refine wpList_nil ?_
  simp only [Act.put]
  refine K.out _ ?_ ?_ (by simp [hs])
  · (repeat (refine Fz.set ?_ _ _))
    exact FF.out
  · (repeat (refine Same.set ?_ _ _ (by decide)))
    exact Same.refl _ _
set_option maxRecDepth 100000 in
set_option maxHeartbeats 1600000 in
theorem s29 (Q : Exit → Act → World → Prop) (a : Act) (w : World)  (F : Fz a)
    (k : ∀ a', Fz a' → Same [0, 1, 2, 3, 4, 5, 6, 7, 17, 18, 19, 20, 21, 22, 23, 24, 25, 26, 28, 29] a a' → a'.tmps[30]? = some (.pointer (some ⟨w.heap.size, 0, none⟩)) → Q .normal a' (w.alloc (.cells #[.slice none 0 0, .slice none 0 0, .slice none 0 0, .slice none 0 0] 104))) : (nth 19 c6).wp Yba.prog Q a w := by
  simp only [L1, L3, nth, c6, Yba.f6, Option.getD, nB, cA, cB, cIn]
  have hs := F.sz
  have FF : Hid (Fz a) := F
  have K : Hid _ := k
  clear k F
  have AL : Hid _ := alloc104 w
  refine wp_region_lit ?_
  refine wpList_alloc rfl rfl AL.out ?_
  refine wpList_nil ?_
  simp only [Act.put]
  refine K.out _ ?_ ?_ (by simp [hs])
  · (repeat (refine Fz.set ?_ _ _))
    exact FF.out
  · (repeat (refine Same.set ?_ _ _ (by decide)))
    exact Same.refl _ _
set_option maxRecDepth 100000 in
set_option maxHeartbeats 1600000 in
theorem s30 (Q : Exit → Act → World → Prop) (a : Act) (w : World)  (F : Fz a)
    (k : ∀ a', Fz a' → Same [0, 1, 2, 3, 4, 5, 6, 7, 17, 18, 19, 20, 21, 22, 23, 24, 25, 26, 28, 29, 30] a a' → a'.tmps[31]? = some (.pointer (some ⟨w.heap.size, 0, none⟩)) → Q .normal a' (w.alloc (.cells #[.slice none 0 0, .slice none 0 0, .slice none 0 0, .slice none 0 0] 105))) : (nth 20 c6).wp Yba.prog Q a w := by
  simp only [L1, L3, nth, c6, Yba.f6, Option.getD, nB, cA, cB, cIn]
  have hs := F.sz
  have FF : Hid (Fz a) := F
  have K : Hid _ := k
  clear k F
  have AL : Hid _ := alloc105 w
  refine wp_region_lit ?_
  refine wpList_alloc rfl rfl AL.out ?_
  refine wpList_nil ?_
  simp only [Act.put]
  refine K.out _ ?_ ?_ (by simp [hs])
  · (repeat (refine Fz.set ?_ _ _))
    exact FF.out
  · (repeat (refine Same.set ?_ _ _ (by decide)))
    exact Same.refl _ _
set_option maxRecDepth 100000 in
set_option maxHeartbeats 1600000 in
theorem s31 (Q : Exit → Act → World → Prop) (a : Act) (w : World)  (F : Fz a)
    (k : ∀ a', Fz a' → Same [0, 1, 2, 3, 4, 5, 6, 7, 17, 18, 19, 20, 21, 22, 23, 24, 25, 26, 28, 29, 30, 31] a a' → a'.tmps[32]? = some (.pointer (some ⟨w.heap.size, 0, none⟩)) → Q .normal a' (w.alloc (.cells #[.int .i64 0, .int .i64 0, .int .i64 0, .int .i64 0] 106))) : (nth 21 c6).wp Yba.prog Q a w := by
  simp only [L1, L3, nth, c6, Yba.f6, Option.getD, nB, cA, cB, cIn]
  have hs := F.sz
  have FF : Hid (Fz a) := F
  have K : Hid _ := k
  clear k F
  have AL : Hid _ := alloc106 w
  refine wp_region_lit ?_
  refine wpList_alloc rfl rfl AL.out ?_
  refine wpList_nil ?_
  simp only [Act.put]
  refine K.out _ ?_ ?_ (by simp [hs])
  · (repeat (refine Fz.set ?_ _ _))
    exact FF.out
  · (repeat (refine Same.set ?_ _ _ (by decide)))
    exact Same.refl _ _
set_option maxRecDepth 100000 in
set_option maxHeartbeats 1600000 in
theorem t32 (Q : Exit → Act → World → Prop) (a : Act) (w : World)  (F : Fz a)
    (k : ∀ a', Fz a' → Same [0, 1, 2, 3, 4, 5, 6, 7, 17, 18, 19, 20, 21, 22, 23, 24, 25, 26, 28, 29, 30, 31, 32] a a' → a'.tmps[33]? = some (.int .i64 ((1 : Nat) : Int)) → Q .normal a' w) : (cA (nth 22 c6)).wp Yba.prog Q a w := by
  simp only [L1, L3, nth, c6, Yba.f6, Option.getD, nB, cA, cB, cIn]
  have hs := F.sz
  have FF : Hid (Fz a) := F
  have K : Hid _ := k
  clear k F
  go_wp2
  refine K.out _ ?_ ?_ (by simp [hs])
  · (repeat (refine Fz.set ?_ _ _))
    exact FF.out
  · (repeat (refine Same.set ?_ _ _ (by decide)))
    exact Same.refl _ _
set_option maxRecDepth 100000 in
set_option maxHeartbeats 1600000 in
theorem t33y (Q : Exit → Act → World → Prop) (a : Act) (w : World) (s : Nat) (h33 : a.tmps[33]? = some (.int .i64 (s : Nat))) (hi : s ≤ 3) (F : Fz a)
    (k : ∀ a', Fz a' → Same [0, 1, 2, 3, 4, 5, 6, 7, 17, 18, 19, 20, 21, 22, 23, 24, 25, 26, 28, 29, 30, 31, 32, 33] a a' → Q .normal a' w) : (cA L3).wp Yba.prog Q a w := by
  simp only [L1, L3, nth, c6, Yba.f6, Option.getD, nB, cA, cB, cIn]
  have hs := F.sz
  obtain ⟨p33, h33'⟩ := sl h33
  have FF : Hid (Fz a) := F
  have K : Hid _ := k
  clear k F
  have d1 : decide ((s : Int) ≤ 3) = true := decide_eq_true (by omega)
  refine wp_seq_k fun KK hKK => ?_
  have HK : Hid _ := hKK
  clear hKK
  go_wp2
  refine HK.out _ _ ?_
  clear HK KK
  refine wp_cond_true (by simp [Act.eval, Act.put, hs]) ?_
  refine wp_skip ?_
  refine K.out _ ?_ ?_ 
  · (repeat (refine Fz.set ?_ _ _))
    exact FF.out
  · (repeat (refine Same.set ?_ _ _ (by decide)))
    exact Same.refl _ _
set_option maxRecDepth 100000 in
set_option maxHeartbeats 1600000 in
theorem t33n (Q : Exit → Act → World → Prop) (a : Act) (w : World) (s : Nat) (h33 : a.tmps[33]? = some (.int .i64 (s : Nat))) (hi : ¬ s ≤ 3) (F : Fz a)
    (k : ∀ a', Fz a' → Same [0, 1, 2, 3, 4, 5, 6, 7, 17, 18, 19, 20, 21, 22, 23, 24, 25, 26, 28, 29, 30, 31, 32, 33] a a' → Q (.exit 3) a' w) : (cA L3).wp Yba.prog Q a w := by
  simp only [L1, L3, nth, c6, Yba.f6, Option.getD, nB, cA, cB, cIn]
  have hs := F.sz
  obtain ⟨p33, h33'⟩ := sl h33
  have FF : Hid (Fz a) := F
  have K : Hid _ := k
  clear k F
  have d1 : decide ((s : Int) ≤ 3) = false := decide_eq_false (by omega)
  refine wp_seq_k fun KK hKK => ?_
  have HK : Hid _ := hKK
  clear hKK
  go_wp2
  refine HK.out _ _ ?_
  clear HK KK
  refine wp_cond_false (by simp [Act.eval, Act.put, hs]) ?_
  refine wp_exit ?_
  refine K.out _ ?_ ?_ 
  · (repeat (refine Fz.set ?_ _ _))
    exact FF.out
  · (repeat (refine Same.set ?_ _ _ (by decide)))
    exact Same.refl _ _
set_option maxRecDepth 100000 in
set_option maxHeartbeats 1600000 in
theorem t34 (Q : Exit → Act → World → Prop) (a : Act) (w : World) (i : Nat) (h33 : a.tmps[33]? = some (.int .i64 (i : Nat))) (hi : i ≤ 1000) (F : Fz a)
    (k : ∀ a', Fz a' → Same [0, 1, 2, 3, 4, 5, 6, 7, 17, 18, 19, 20, 21, 22, 23, 24, 25, 26, 28, 29, 30, 31, 32] a a' → a'.tmps[33]? = some (.int .i64 ((i + 1 : Nat) : Int)) → Q .normal a' w) : (cB (cB L3)).wp Yba.prog Q a w := by
  simp only [L1, L3, nth, c6, Yba.f6, Option.getD, nB, cA, cB, cIn]
  have hs := F.sz
  obtain ⟨p33, h33'⟩ := sl h33
  have FF : Hid (Fz a) := F
  have K : Hid _ := k
  clear k F
  have w1 : IntKind.i64.wrap ((i : Int) + 1) = ((i + 1 : Nat) : Int) := by rw [wrap_small _ (by omega) (by omega)]; omega
  go_wp2
  refine K.out _ ?_ ?_ (by simp [hs])
  · (repeat (refine Fz.set ?_ _ _))
    exact FF.out
  · (repeat (refine Same.set ?_ _ _ (by decide)))
    exact Same.refl _ _
end Go.Proofs.Ybulkcsck.Ga
