/-
  OWN TEXT. LawS4690CGather: the set-up, piece by piece
-/
import Derived.Test.YbulkcsckGbM
set_option linter.unusedSimpArgs false
set_option linter.unusedVariables false
namespace Go.Proofs.Ybulkcsck.Ga
open Go.RowKit

structure Fz (a : Act) : Prop where
  sz : a.tmps.size = 556
  df : a.defers = []
theorem Fz.set {X : Array Value} {D : List Deferred} (h : Fz ⟨X, D⟩) (d : Nat) (v : Value) : Fz ⟨X.setIfInBounds d v, D⟩ := ⟨by simpa using h.sz, h.df⟩

set_option maxRecDepth 100000 in
set_option maxHeartbeats 1600000 in
theorem s0 (Q : Exit → Act → World → Prop) (a : Act) (w : World)  (F : Fz a)
    (k : ∀ a', Fz a' → Same [0, 1, 2, 3, 4, 5, 6, 7] a a' → Q .normal a' w) : (nth 0 c6).wp Yba.prog Q a w := by
  simp only [nth, c6, Yba.f6, Option.getD, nB, cA, cB, cIn]
  have hs := F.sz
  have FF : Hid (Fz a) := F
  have K : Hid _ := k
  clear k F
  go_wp2
  refine K.out _ ?_ ?_ 
  · (repeat (refine Fz.set ?_ _ _))
    exact FF.out
  · (repeat (refine Same.set ?_ _ _ (by decide)))
    exact Same.refl _ _
set_option maxRecDepth 100000 in
set_option maxHeartbeats 1600000 in
theorem s1n (Q : Exit → Act → World → Prop) (a : Act) (w : World) (p : Option Addr) (n c : Nat) (h7 : a.tmps[7]? = some (.slice p n c)) (hn : n ≤ 300) (F : Fz a)
    (k : ∀ a', Fz a' → Same [0, 1, 2, 3, 4, 5, 6, 7] a a' → Q .normal a' w) : (nth 1 c6).wp Yba.prog Q a w := by
  simp only [nth, c6, Yba.f6, Option.getD, nB, cA, cB, cIn]
  have hs := F.sz
  obtain ⟨p7, h7'⟩ := sl h7
  have FF : Hid (Fz a) := F
  have K : Hid _ := k
  clear k F
  have d1 : decide ((n : Int) > 300) = false := decide_eq_false (by omega)
  refine wp_seq_k fun KK hKK => ?_
  have HK : Hid _ := hKK
  clear hKK
  go_wp2
  refine HK.out _ _ ?_
  clear HK KK
  refine wp_cond_false (by simp [Act.eval, Act.put, hs]) ?_
  refine wp_skip ?_
  refine K.out _ ?_ ?_ 
  · (repeat (refine Fz.set ?_ _ _))
    exact FF.out
  · (repeat (refine Same.set ?_ _ _ (by decide)))
    exact Same.refl _ _
set_option maxRecDepth 100000 in
set_option maxHeartbeats 1600000 in
theorem s1y (Q : Exit → Act → World → Prop) (a : Act) (w : World) (p : Option Addr) (n c : Nat) (h7 : a.tmps[7]? = some (.slice p n c)) (hn : ¬ n ≤ 300) (F : Fz a)
    (k : ∀ a', a'.defers = [] → a'.tmps[16]? = some (.bool true) → Q .ret a' w) : (nth 1 c6).wp Yba.prog Q a w := by
  simp only [nth, c6, Yba.f6, Option.getD, nB, cA, cB, cIn]
  have hs := F.sz
  have hd := F.df
  obtain ⟨p7, h7'⟩ := sl h7
  have K : Hid _ := k
  clear k F
  have d1 : decide ((n : Int) > 300) = true := decide_eq_true (by omega)
  refine wp_seq_k fun KK hKK => ?_
  have HK : Hid _ := hKK
  clear hKK
  go_wp2
  refine HK.out _ _ ?_
  clear HK KK
  refine wp_cond_true (by simp [Act.eval, Act.put, hs]) ?_
  refine wp_seq_k fun KK hKK => ?_
  have HK : Hid _ := hKK
  clear hKK
  go_wp2
  refine HK.out _ _ ?_
  clear HK KK
  refine wp_ret ?_
  exact K.out _ rfl (by simp [hs])
set_option maxRecDepth 100000 in
set_option maxHeartbeats 1600000 in
theorem s3 (Q : Exit → Act → World → Prop) (a : Act) (w : World) (x : Nat) (h0 : a.tmps[0]? = some (.int .u8 (x : Nat))) (F : Fz a)
    (k : ∀ a', Fz a' → Same [0, 1, 2, 3, 4, 5, 6, 7] a a' → a'.tmps[17]? = some (.int .i64 ((x % 3 : Nat) : Int)) → Q .normal a' w) : (nth 2 c6).wp Yba.prog Q a w := by
  simp only [nth, c6, Yba.f6, Option.getD, nB, cA, cB, cIn]
  have hs := F.sz
  obtain ⟨p0, h0'⟩ := sl h0
  have FF : Hid (Fz a) := F
  have K : Hid _ := k
  clear k F
  have tm : (x : Int).tmod 3 = ((x % 3 : Nat) : Int) := (Int.ofNat_tmod _ _).symm
  have wr : IntKind.i64.wrap ((x % 3 : Nat) : Int) = ((x % 3 : Nat) : Int) := wrap_small _ (by omega) (by omega)
  have wr8 : IntKind.u8.wrap ((x % 3 : Nat) : Int) = ((x % 3 : Nat) : Int) := wrap_small8 _ (by omega) (by omega)
  generalize x % 3 = y at *
  refine wp_region_lit ?_
  iterate 4 (refine wpList_val rfl _ (by simp [go_sem, execOp, Act.eval, Act.put, hs, h0', tm, wr, wr8]; first | done | rfl) ?_)
  refine wpList_nil ?_
  simp only [Act.put]
  refine K.out _ ?_ ?_ (by simp [hs])
  · (repeat (refine Fz.set ?_ _ _))
    exact FF.out
  · (repeat (refine Same.set ?_ _ _ (by decide)))
    exact Same.refl _ _
set_option maxRecDepth 100000 in
set_option maxHeartbeats 1600000 in
theorem s4 (Q : Exit → Act → World → Prop) (a : Act) (w : World) (x f : Nat) (hf : f ≤ 2) (h1 : a.tmps[1]? = some (.int .u8 (x : Nat))) (h17 : a.tmps[17]? = some (.int .i64 (f : Nat))) (F : Fz a)
    (k : ∀ a', Fz a' → Same [0, 1, 2, 3, 4, 5, 6, 7, 17] a a' → a'.tmps[18]? = some (.int .i64 ((3 * f + 1 + x % 3 : Nat) : Int)) → Q .normal a' w) : (nth 3 c6).wp Yba.prog Q a w := by
  simp only [nth, c6, Yba.f6, Option.getD, nB, cA, cB, cIn]
  have hs := F.sz
  obtain ⟨p1, h1'⟩ := sl h1
  obtain ⟨p17, h17'⟩ := sl h17
  have FF : Hid (Fz a) := F
  have K : Hid _ := k
  clear k F
  have y2 : x % 3 ≤ 2 := by omega
  have tm : (x : Int).tmod 3 = ((x % 3 : Nat) : Int) := (Int.ofNat_tmod _ _).symm
  have wr : IntKind.i64.wrap ((x % 3 : Nat) : Int) = ((x % 3 : Nat) : Int) := wrap_small _ (by omega) (by omega)
  have wr8 : IntKind.u8.wrap ((x % 3 : Nat) : Int) = ((x % 3 : Nat) : Int) := wrap_small8 _ (by omega) (by omega)
  generalize x % 3 = y at *
  have m1 : IntKind.i64.wrap (3 * (f : Int)) = ((3 * f : Nat) : Int) := by rw [wrap_small _ (by omega) (by omega)]; omega
  have m2 : IntKind.i64.wrap (((3 * f : Nat) : Int) + 1) = ((3 * f + 1 : Nat) : Int) := by rw [wrap_small _ (by omega) (by omega)]; omega
  have m3 : IntKind.i64.wrap (((3 * f + 1 : Nat) : Int) + (y : Int)) = ((3 * f + 1 + y : Nat) : Int) := by rw [wrap_small _ (by omega) (by omega)]; omega
  generalize 3 * f = z at *
  generalize z + 1 = z1 at *
  generalize z1 + y = z2 at *
  refine wp_region_lit ?_
  iterate 8 (refine wpList_val rfl _ (by simp [go_sem, execOp, Act.eval, Act.put, hs, h1', h17', tm, wr, wr8, m1, m2, m3]; first | done | rfl) ?_)
  refine wpList_nil ?_
  simp only [Act.put]
  refine K.out _ ?_ ?_ (by simp [hs])
  · (repeat (refine Fz.set ?_ _ _))
    exact FF.out
  · (repeat (refine Same.set ?_ _ _ (by decide)))
    exact Same.refl _ _
set_option maxRecDepth 100000 in
set_option maxHeartbeats 1600000 in
theorem s5 (Q : Exit → Act → World → Prop) (a : Act) (w : World) (x n : Nat) (hn : 0 < n ∧ n ≤ 100) (h2 : a.tmps[2]? = some (.int .u8 (x : Nat))) (hx : x ≤ 255) (h18 : a.tmps[18]? = some (.int .i64 (n : Nat))) (F : Fz a)
    (k : ∀ a', Fz a' → Same [0, 1, 2, 3, 4, 5, 6, 7, 17, 18] a a' → a'.tmps[19]? = some (.int .i64 ((x % n : Nat) : Int)) → Q .normal a' w) : (nth 4 c6).wp Yba.prog Q a w := by
  simp only [nth, c6, Yba.f6, Option.getD, nB, cA, cB, cIn]
  have hs := F.sz
  obtain ⟨p2, h2'⟩ := sl h2
  obtain ⟨p18, h18'⟩ := sl h18
  have FF : Hid (Fz a) := F
  have K : Hid _ := k
  clear k F
  obtain ⟨n1, n2⟩ := hn
  have tm : (x : Int).tmod (n : Int) = ((x % n : Nat) : Int) := (Int.ofNat_tmod _ _).symm
  have hlt : x % n ≤ 100 := by have := Nat.mod_lt x n1; omega
  have wr : IntKind.i64.wrap ((x % n : Nat) : Int) = ((x % n : Nat) : Int) := wrap_small _ (by omega) (by omega)
  have wx : IntKind.i64.wrap (x : Int) = (x : Int) := wrap_small _ (by omega) (by omega)
  have n3 : ¬ ((n : Int) = 0) := by omega
  have n4 : ¬ (n = 0) := by omega
  generalize x % n = y at *
  refine wp_region_lit ?_
  iterate 5 (refine wpList_val rfl _ (by simp [go_sem, execOp, Act.eval, Act.put, hs, h2', h18', tm, wr, wx, n3, n4]; first | done | rfl) ?_)
  refine wpList_nil ?_
  simp only [Act.put]
  refine K.out _ ?_ ?_ (by simp [hs])
  · (repeat (refine Fz.set ?_ _ _))
    exact FF.out
  · (repeat (refine Same.set ?_ _ _ (by decide)))
    exact Same.refl _ _
set_option maxRecDepth 100000 in
set_option maxHeartbeats 1600000 in
theorem s6 (Q : Exit → Act → World → Prop) (a : Act) (w : World) (x : Nat) (h3 : a.tmps[3]? = some (.int .u8 (x : Nat))) (F : Fz a)
    (k : ∀ a', Fz a' → Same [0, 1, 2, 3, 4, 5, 6, 7, 17, 18, 19] a a' → a'.tmps[20]? = some (.int .u8 ((x % 16 : Nat) : Int)) → Q .normal a' w) : (nth 5 c6).wp Yba.prog Q a w := by
  simp only [nth, c6, Yba.f6, Option.getD, nB, cA, cB, cIn]
  have hs := F.sz
  obtain ⟨p3, h3'⟩ := sl h3
  have FF : Hid (Fz a) := F
  have K : Hid _ := k
  clear k F
  have tm : (x : Int).tmod 16 = ((x % 16 : Nat) : Int) := (Int.ofNat_tmod _ _).symm
  have wr : IntKind.i64.wrap ((x % 16 : Nat) : Int) = ((x % 16 : Nat) : Int) := wrap_small _ (by omega) (by omega)
  have wr8 : IntKind.u8.wrap ((x % 16 : Nat) : Int) = ((x % 16 : Nat) : Int) := wrap_small8 _ (by omega) (by omega)
  generalize x % 16 = y at *
  refine wp_region_lit ?_
  iterate 3 (refine wpList_val rfl _ (by simp [go_sem, execOp, Act.eval, Act.put, hs, h3', tm, wr, wr8]; first | done | rfl) ?_)
  refine wpList_nil ?_
  simp only [Act.put]
  refine K.out _ ?_ ?_ (by simp [hs])
  · (repeat (refine Fz.set ?_ _ _))
    exact FF.out
  · (repeat (refine Same.set ?_ _ _ (by decide)))
    exact Same.refl _ _
set_option maxRecDepth 100000 in
set_option maxHeartbeats 1600000 in
theorem s7 (Q : Exit → Act → World → Prop) (a : Act) (w : World) (v : Int) (h6 : a.tmps[6]? = some (.int .i64 v)) (F : Fz a)
    (k : ∀ a', Fz a' → Same [0, 1, 2, 3, 4, 5, 6, 7, 17, 18, 19, 20] a a' → a'.tmps[21]? = some (.int .i64 v) → Q .normal a' w) : (nth 6 c6).wp Yba.prog Q a w := by
  simp only [nth, c6, Yba.f6, Option.getD, nB, cA, cB, cIn]
  have hs := F.sz
  obtain ⟨p6, h6'⟩ := sl h6
  have FF : Hid (Fz a) := F
  have K : Hid _ := k
  clear k F
  go_wp2
  refine K.out _ ?_ ?_ (by simp [hs, h6'])
  · (repeat (refine Fz.set ?_ _ _))
    exact FF.out
  · (repeat (refine Same.set ?_ _ _ (by decide)))
    exact Same.refl _ _
set_option maxRecDepth 100000 in
set_option maxHeartbeats 1600000 in
theorem s8 (Q : Exit → Act → World → Prop) (a : Act) (w : World)  (F : Fz a)
    (k : ∀ a', Fz a' → Same [0, 1, 2, 3, 4, 5, 6, 7, 17, 18, 19, 20, 21] a a' → a'.tmps[22]? = some (.bool false) → Q .normal a' w) : (nth 7 c6).wp Yba.prog Q a w := by
  simp only [nth, c6, Yba.f6, Option.getD, nB, cA, cB, cIn]
  have hs := F.sz
  have FF : Hid (Fz a) := F
  have K : Hid _ := k
  clear k F
  go_wp2
  refine K.out _ ?_ ?_ (by simp [hs])
  · (repeat (refine Fz.set ?_ _ _))
    exact FF.out
  · (repeat (refine Same.set ?_ _ _ (by decide)))
    exact Same.refl _ _
set_option maxRecDepth 100000 in
set_option maxHeartbeats 1600000 in
theorem s9a (Q : Exit → Act → World → Prop) (a : Act) (w : World) (y : Nat) (v : Int) (h20 : a.tmps[20]? = some (.int .u8 (y : Nat))) (h6 : a.tmps[6]? = some (.int .i64 v)) (h21 : a.tmps[21]? = some (.int .i64 v)) (h22 : a.tmps[22]? = some (.bool false)) (hy : y < 6) (F : Fz a)
    (k : ∀ a', Fz a' → Same [0, 1, 2, 3, 4, 5, 6, 7, 17, 18, 19, 20] a a' → a'.tmps[21]? = some (.int .i64 v) → a'.tmps[22]? = some (.bool false) → Q .normal a' w) : (nth 8 c6).wp Yba.prog Q a w := by
  simp only [nth, c6, Yba.f6, Option.getD, nB, cA, cB, cIn]
  have hs := F.sz
  obtain ⟨p6, h6'⟩ := sl h6
  obtain ⟨p20, h20'⟩ := sl h20
  obtain ⟨p21, h21'⟩ := sl h21
  obtain ⟨p22, h22'⟩ := sl h22
  have FF : Hid (Fz a) := F
  have K : Hid _ := k
  clear k F
  have d1 : decide ((y : Int) ≥ 6) = false := decide_eq_false (by omega)
  have d3 : ((y : Int) == 12) = false := by simp; omega
  have d4 : ((y : Int) == 13) = false := by simp; omega
  have d5 : ((y : Int) == 14) = false := by simp; omega
  refine wp_block ?_
  refine wp_seq_k fun KK hKK => ?_
  have HK : Hid _ := hKK
  clear hKK
  go_wp2
  refine HK.out _ _ ?_
  clear HK KK
  refine wp_cond_false (by simp [Act.eval, Act.put, hs]) ?_
  refine wp_seq_k fun KK hKK => ?_
  have HK : Hid _ := hKK
  clear hKK
  go_wp2
  refine HK.out _ _ ?_
  clear HK KK
  refine wp_cond_false (by simp [Act.eval, Act.put, hs]) ?_
  refine wp_seq_k fun KK hKK => ?_
  have HK : Hid _ := hKK
  clear hKK
  go_wp2
  refine HK.out _ _ ?_
  clear HK KK
  refine wp_cond_false (by simp [Act.eval, Act.put, hs]) ?_
  refine wp_skip ?_
  simp only [Exit.inBlock]
  refine K.out _ ?_ ?_ (by simp [hs, h21']) (by simp [hs, h22'])
  · (repeat (refine Fz.set ?_ _ _))
    exact FF.out
  · (repeat (refine Same.set ?_ _ _ (by decide)))
    exact Same.refl _ _
set_option maxRecDepth 100000 in
set_option maxHeartbeats 1600000 in
theorem s9b (Q : Exit → Act → World → Prop) (a : Act) (w : World) (y : Nat) (v : Int) (h20 : a.tmps[20]? = some (.int .u8 (y : Nat))) (h6 : a.tmps[6]? = some (.int .i64 v)) (h21 : a.tmps[21]? = some (.int .i64 v)) (h22 : a.tmps[22]? = some (.bool false)) (hy : 6 ≤ y ∧ y < 12) (F : Fz a)
    (k : ∀ a', Fz a' → Same [0, 1, 2, 3, 4, 5, 6, 7, 17, 18, 19, 20] a a' → a'.tmps[21]? = some (.int .i64 (-1)) → a'.tmps[22]? = some (.bool false) → Q .normal a' w) : (nth 8 c6).wp Yba.prog Q a w := by
  simp only [nth, c6, Yba.f6, Option.getD, nB, cA, cB, cIn]
  have hs := F.sz
  obtain ⟨p6, h6'⟩ := sl h6
  obtain ⟨p20, h20'⟩ := sl h20
  obtain ⟨p21, h21'⟩ := sl h21
  obtain ⟨p22, h22'⟩ := sl h22
  have FF : Hid (Fz a) := F
  have K : Hid _ := k
  clear k F
  have d1 : decide ((y : Int) ≥ 6) = true := decide_eq_true (by omega)
  have d2 : decide ((y : Int) < 12) = true := decide_eq_true (by omega)
  refine wp_block ?_
  refine wp_seq_k fun KK hKK => ?_
  have HK : Hid _ := hKK
  clear hKK
  go_wp2
  refine HK.out _ _ ?_
  clear HK KK
  refine wp_cond_true (by simp [Act.eval, Act.put, hs]) ?_
  go_wp2
  refine K.out _ ?_ ?_ (by simp [hs, h21']) (by simp [hs, h22'])
  · (repeat (refine Fz.set ?_ _ _))
    exact FF.out
  · (repeat (refine Same.set ?_ _ _ (by decide)))
    exact Same.refl _ _
set_option maxRecDepth 100000 in
set_option maxHeartbeats 1600000 in
theorem s9c (Q : Exit → Act → World → Prop) (a : Act) (w : World) (y : Nat) (v : Int) (h20 : a.tmps[20]? = some (.int .u8 (y : Nat))) (h6 : a.tmps[6]? = some (.int .i64 v)) (h21 : a.tmps[21]? = some (.int .i64 v)) (h22 : a.tmps[22]? = some (.bool false)) (hy : y = 12) (F : Fz a)
    (k : ∀ a', Fz a' → Same [0, 1, 2, 3, 4, 5, 6, 7, 17, 18, 19, 20] a a' → a'.tmps[21]? = some (.int .i64 (wrap64 (v + 1))) → a'.tmps[22]? = some (.bool false) → Q .normal a' w) : (nth 8 c6).wp Yba.prog Q a w := by
  simp only [nth, c6, Yba.f6, Option.getD, nB, cA, cB, cIn]
  have hs := F.sz
  obtain ⟨p6, h6'⟩ := sl h6
  obtain ⟨p20, h20'⟩ := sl h20
  obtain ⟨p21, h21'⟩ := sl h21
  obtain ⟨p22, h22'⟩ := sl h22
  have FF : Hid (Fz a) := F
  have K : Hid _ := k
  clear k F
  have d1 : decide ((y : Int) ≥ 6) = true := decide_eq_true (by omega)
  have d2 : decide ((y : Int) < 12) = false := decide_eq_false (by omega)
  have d3 : ((y : Int) == 12) = true := by simp; omega
  refine wp_block ?_
  refine wp_seq_k fun KK hKK => ?_
  have HK : Hid _ := hKK
  clear hKK
  go_wp2
  refine HK.out _ _ ?_
  clear HK KK
  refine wp_cond_false (by simp [Act.eval, Act.put, hs]) ?_
  refine wp_seq_k fun KK hKK => ?_
  have HK : Hid _ := hKK
  clear hKK
  go_wp2
  refine HK.out _ _ ?_
  clear HK KK
  refine wp_cond_true (by simp [Act.eval, Act.put, hs]) ?_
  go_wp2
  refine K.out _ ?_ ?_ (by simp [hs, h21']) (by simp [hs, h22'])
  · (repeat (refine Fz.set ?_ _ _))
    exact FF.out
  · (repeat (refine Same.set ?_ _ _ (by decide)))
    exact Same.refl _ _
set_option maxRecDepth 100000 in
set_option maxHeartbeats 1600000 in
theorem s9d (Q : Exit → Act → World → Prop) (a : Act) (w : World) (y : Nat) (v : Int) (h20 : a.tmps[20]? = some (.int .u8 (y : Nat))) (h6 : a.tmps[6]? = some (.int .i64 v)) (h21 : a.tmps[21]? = some (.int .i64 v)) (h22 : a.tmps[22]? = some (.bool false)) (hy : y = 13) (F : Fz a)
    (k : ∀ a', Fz a' → Same [0, 1, 2, 3, 4, 5, 6, 7, 17, 18, 19, 20] a a' → a'.tmps[21]? = some (.int .i64 (wrap64 (v + 1))) → a'.tmps[22]? = some (.bool false) → Q .normal a' w) : (nth 8 c6).wp Yba.prog Q a w := by
  simp only [nth, c6, Yba.f6, Option.getD, nB, cA, cB, cIn]
  have hs := F.sz
  obtain ⟨p6, h6'⟩ := sl h6
  obtain ⟨p20, h20'⟩ := sl h20
  obtain ⟨p21, h21'⟩ := sl h21
  obtain ⟨p22, h22'⟩ := sl h22
  have FF : Hid (Fz a) := F
  have K : Hid _ := k
  clear k F
  have d1 : decide ((y : Int) ≥ 6) = true := decide_eq_true (by omega)
  have d2 : decide ((y : Int) < 12) = false := decide_eq_false (by omega)
  have d3 : ((y : Int) == 12) = false := by simp; omega
  have d4 : ((y : Int) == 13) = true := by simp; omega
  refine wp_block ?_
  refine wp_seq_k fun KK hKK => ?_
  have HK : Hid _ := hKK
  clear hKK
  go_wp2
  refine HK.out _ _ ?_
  clear HK KK
  refine wp_cond_false (by simp [Act.eval, Act.put, hs]) ?_
  refine wp_seq_k fun KK hKK => ?_
  have HK : Hid _ := hKK
  clear hKK
  go_wp2
  refine HK.out _ _ ?_
  clear HK KK
  refine wp_cond_true (by simp [Act.eval, Act.put, hs]) ?_
  go_wp2
  refine K.out _ ?_ ?_ (by simp [hs, h21']) (by simp [hs, h22'])
  · (repeat (refine Fz.set ?_ _ _))
    exact FF.out
  · (repeat (refine Same.set ?_ _ _ (by decide)))
    exact Same.refl _ _
set_option maxRecDepth 100000 in
set_option maxHeartbeats 1600000 in
theorem s9e (Q : Exit → Act → World → Prop) (a : Act) (w : World) (y : Nat) (v : Int) (h20 : a.tmps[20]? = some (.int .u8 (y : Nat))) (h6 : a.tmps[6]? = some (.int .i64 v)) (h21 : a.tmps[21]? = some (.int .i64 v)) (h22 : a.tmps[22]? = some (.bool false)) (hy : y = 14) (F : Fz a)
    (k : ∀ a', Fz a' → Same [0, 1, 2, 3, 4, 5, 6, 7, 17, 18, 19, 20] a a' → a'.tmps[21]? = some (.int .i64 v) → a'.tmps[22]? = some (.bool true) → Q .normal a' w) : (nth 8 c6).wp Yba.prog Q a w := by
  simp only [nth, c6, Yba.f6, Option.getD, nB, cA, cB, cIn]
  have hs := F.sz
  obtain ⟨p6, h6'⟩ := sl h6
  obtain ⟨p20, h20'⟩ := sl h20
  obtain ⟨p21, h21'⟩ := sl h21
  obtain ⟨p22, h22'⟩ := sl h22
  have FF : Hid (Fz a) := F
  have K : Hid _ := k
  clear k F
  have d1 : decide ((y : Int) ≥ 6) = true := decide_eq_true (by omega)
  have d2 : decide ((y : Int) < 12) = false := decide_eq_false (by omega)
  have d3 : ((y : Int) == 12) = false := by simp; omega
  have d4 : ((y : Int) == 13) = false := by simp; omega
  have d5 : ((y : Int) == 14) = true := by simp; omega
  refine wp_block ?_
  refine wp_seq_k fun KK hKK => ?_
  have HK : Hid _ := hKK
  clear hKK
  go_wp2
  refine HK.out _ _ ?_
  clear HK KK
  refine wp_cond_false (by simp [Act.eval, Act.put, hs]) ?_
  refine wp_seq_k fun KK hKK => ?_
  have HK : Hid _ := hKK
  clear hKK
  go_wp2
  refine HK.out _ _ ?_
  clear HK KK
  refine wp_cond_false (by simp [Act.eval, Act.put, hs]) ?_
  refine wp_seq_k fun KK hKK => ?_
  have HK : Hid _ := hKK
  clear hKK
  go_wp2
  refine HK.out _ _ ?_
  clear HK KK
  refine wp_cond_true (by simp [Act.eval, Act.put, hs]) ?_
  go_wp2
  refine K.out _ ?_ ?_ (by simp [hs, h21']) (by simp [hs, h22'])
  · (repeat (refine Fz.set ?_ _ _))
    exact FF.out
  · (repeat (refine Same.set ?_ _ _ (by decide)))
    exact Same.refl _ _
set_option maxRecDepth 100000 in
set_option maxHeartbeats 1600000 in
theorem s9f (Q : Exit → Act → World → Prop) (a : Act) (w : World) (y : Nat) (v : Int) (h20 : a.tmps[20]? = some (.int .u8 (y : Nat))) (h6 : a.tmps[6]? = some (.int .i64 v)) (h21 : a.tmps[21]? = some (.int .i64 v)) (h22 : a.tmps[22]? = some (.bool false)) (hy : 14 < y) (F : Fz a)
    (k : ∀ a', Fz a' → Same [0, 1, 2, 3, 4, 5, 6, 7, 17, 18, 19, 20] a a' → a'.tmps[21]? = some (.int .i64 v) → a'.tmps[22]? = some (.bool false) → Q .normal a' w) : (nth 8 c6).wp Yba.prog Q a w := by
  simp only [nth, c6, Yba.f6, Option.getD, nB, cA, cB, cIn]
  have hs := F.sz
  obtain ⟨p6, h6'⟩ := sl h6
  obtain ⟨p20, h20'⟩ := sl h20
  obtain ⟨p21, h21'⟩ := sl h21
  obtain ⟨p22, h22'⟩ := sl h22
  have FF : Hid (Fz a) := F
  have K : Hid _ := k
  clear k F
  have d1 : decide ((y : Int) ≥ 6) = true := decide_eq_true (by omega)
  have d2 : decide ((y : Int) < 12) = false := decide_eq_false (by omega)
  have d3 : ((y : Int) == 12) = false := by simp; omega
  have d4 : ((y : Int) == 13) = false := by simp; omega
  have d5 : ((y : Int) == 14) = false := by simp; omega
  refine wp_block ?_
  refine wp_seq_k fun KK hKK => ?_
  have HK : Hid _ := hKK
  clear hKK
  go_wp2
  refine HK.out _ _ ?_
  clear HK KK
  refine wp_cond_false (by simp [Act.eval, Act.put, hs]) ?_
  refine wp_seq_k fun KK hKK => ?_
  have HK : Hid _ := hKK
  clear hKK
  go_wp2
  refine HK.out _ _ ?_
  clear HK KK
  refine wp_cond_false (by simp [Act.eval, Act.put, hs]) ?_
  refine wp_seq_k fun KK hKK => ?_
  have HK : Hid _ := hKK
  clear hKK
  go_wp2
  refine HK.out _ _ ?_
  clear HK KK
  refine wp_cond_false (by simp [Act.eval, Act.put, hs]) ?_
  refine wp_skip ?_
  simp only [Exit.inBlock]
  refine K.out _ ?_ ?_ (by simp [hs, h21']) (by simp [hs, h22'])
  · (repeat (refine Fz.set ?_ _ _))
    exact FF.out
  · (repeat (refine Same.set ?_ _ _ (by decide)))
    exact Same.refl _ _
end Go.Proofs.Ybulkcsck.Ga
