/-
  OWN TEXT. LawS4690CGather: the checks at the end: the certificates
-/
import Derived.Test.YbulkcsckGbI
set_option linter.unusedSimpArgs false
set_option linter.unusedVariables false
namespace Go.Proofs.Ybulkcsck.Ga
open Go.RowKit

theorem ta120 (qp : Nat) (w : World) : (Instr.typeAssert (.iface 120 (.pointer (some ⟨qp, 0, none⟩))) 117 120 true).run Yba.prog w = .ok (.tuple #[.pointer (some ⟨qp, 0, none⟩), .bool true]) w := by kernel_rfl
theorem len64 {w : World} {mb clk : Nat} {es : Array MapEntry} (h : w.heap[mb]? = some (.map es clk)) : (Builtin.len_ #[64] 3 #[.map (some mb)]).run Yba.prog w = .ok (.int .i64 (es.size : Nat)) w := run_len_map (P := Yba.prog) w 64 3 mb es clk (by kernel_rfl) h

set_option maxRecDepth 100000 in
set_option maxHeartbeats 1600000 in
theorem e91 (Q : Exit → Act → World → Prop) (a : Act) (L : Lw) (w : World) (N : Nat) (p p1 p2 : Option Addr) (c c1 c2 : Nat) (mb : Nat) (es : Array MapEntry) (clk : Nat) (mV : Value) (h36 : a.tmps[36]? = some (.slice p N c)) (k1 : w.cell? ⟨L.cf.rb, 109, none⟩ = some (.slice p1 N c1)) (k2 : w.cell? ⟨L.cf.rb, 102, none⟩ = some (.slice p2 N c2)) (k3 : w.cell? ⟨L.cf.rb, 108, none⟩ = some mV) (hm : (mV = .map none ∧ N = 0) ∨ (mV = .map (some mb) ∧ w.heap[mb]? = some (.map es clk) ∧ es.size = N)) (F : Fr a L)
    (k : ∀ a', Fr a' L → Same [34, 35, 36, 37] a a' → Q .normal a' w) : (nth 31 c6).wp Yba.prog Q a w := by
  simp only [L10, L12, L14, L16, B15, nth, c6, Yba.f6, Option.getD, nB, cA, cB, cIn]
  have hs := F.sz
  obtain ⟨p26, h26⟩ := sl F.s26
  obtain ⟨p36, h36'⟩ := sl h36
  have FF : Hid (Fr a L) := F
  have K : Hid _ := k
  clear k F
  rcases hm with ⟨rfl, hN⟩ | ⟨rfl, hm, hN⟩
  · subst hN
    refine wp_seq_k fun KK hKK => ?_
    have HK : Hid _ := hKK
    clear hKK
    go_wp2
    refine HK.out _ _ ?_
    clear HK KK
    refine wp_cond_false (by simp [Act.eval, Act.put, hs]) ?_
    refine wp_skip ?_
    refine K.out _ ?_ ?_ 
    · (repeat (refine Fr.set ?_ _ _ (by decide)))
      exact FF.out
    · (repeat (refine Same.set ?_ _ _ (by decide)))
      exact Same.refl _ _
  · subst hN
    have hl := len64 hm
    clear hm
    refine wp_seq_k fun KK hKK => ?_
    have HK : Hid _ := hKK
    clear hKK
    go_wp2
    refine HK.out _ _ ?_
    clear HK KK
    refine wp_cond_false (by simp [Act.eval, Act.put, hs]) ?_
    refine wp_skip ?_
    refine K.out _ ?_ ?_ 
    · (repeat (refine Fr.set ?_ _ _ (by decide)))
      exact FF.out
    · (repeat (refine Same.set ?_ _ _ (by decide)))
      exact Same.refl _ _
set_option maxRecDepth 100000 in
set_option maxHeartbeats 1600000 in
theorem e93 (Q : Exit → Act → World → Prop) (a : Act) (L : Lw) (w : World)  (F : Fr a L)
    (k : ∀ a', Fr a' L → Same [34, 35, 36, 37] a a' → a'.tmps[48]? = some (.int .i64 ((0 : Nat) : Int)) → Q .normal a' w) : (cA (nth 32 c6)).wp Yba.prog Q a w := by
  simp only [L10, L12, L14, L16, B15, nth, c6, Yba.f6, Option.getD, nB, cA, cB, cIn]
  have hs := F.sz
  have FF : Hid (Fr a L) := F
  have K : Hid _ := k
  clear k F
  go_wp2
  refine K.out _ ?_ ?_ (by simp [hs])
  · (repeat (refine Fr.set ?_ _ _ (by decide)))
    exact FF.out
  · (repeat (refine Same.set ?_ _ _ (by decide)))
    exact Same.refl _ _
set_option maxRecDepth 100000 in
set_option maxHeartbeats 1600000 in
theorem e94y (Q : Exit → Act → World → Prop) (a : Act) (L : Lw) (w : World) (i N : Nat) (p : Option Addr) (c : Nat) (h48 : a.tmps[48]? = some (.int .i64 (i : Nat))) (h36 : a.tmps[36]? = some (.slice p N c)) (hi : i < N) (F : Fr a L)
    (k : ∀ a', Fr a' L → Same [34, 35, 36, 37, 48] a a' → Q .normal a' w) : (cA L14).wp Yba.prog Q a w := by
  simp only [L10, L12, L14, L16, B15, nth, c6, Yba.f6, Option.getD, nB, cA, cB, cIn]
  have hs := F.sz
  obtain ⟨p48, h48'⟩ := sl h48
  obtain ⟨p36, h36'⟩ := sl h36
  have FF : Hid (Fr a L) := F
  have K : Hid _ := k
  clear k F
  have d1 : decide ((i : Int) < (N : Int)) = true := decide_eq_true (by omega)
  refine wp_seq_k fun KK hKK => ?_
  have HK : Hid _ := hKK
  clear hKK
  go_wp2
  refine HK.out _ _ ?_
  clear HK KK
  refine wp_cond_true (by simp [Act.eval, Act.put, hs]) ?_
  refine wp_skip ?_
  refine K.out _ ?_ ?_ 
  · (repeat (refine Fr.set ?_ _ _ (by decide)))
    exact FF.out
  · (repeat (refine Same.set ?_ _ _ (by decide)))
    exact Same.refl _ _
set_option maxRecDepth 100000 in
set_option maxHeartbeats 1600000 in
theorem e94n (Q : Exit → Act → World → Prop) (a : Act) (L : Lw) (w : World) (i N : Nat) (p : Option Addr) (c : Nat) (h48 : a.tmps[48]? = some (.int .i64 (i : Nat))) (h36 : a.tmps[36]? = some (.slice p N c)) (hi : ¬ i < N) (F : Fr a L)
    (k : ∀ a', Fr a' L → Same [34, 35, 36, 37, 48] a a' → Q (.exit 14) a' w) : (cA L14).wp Yba.prog Q a w := by
  simp only [L10, L12, L14, L16, B15, nth, c6, Yba.f6, Option.getD, nB, cA, cB, cIn]
  have hs := F.sz
  obtain ⟨p48, h48'⟩ := sl h48
  obtain ⟨p36, h36'⟩ := sl h36
  have FF : Hid (Fr a L) := F
  have K : Hid _ := k
  clear k F
  have d1 : decide ((i : Int) < (N : Int)) = false := decide_eq_false (by omega)
  refine wp_seq_k fun KK hKK => ?_
  have HK : Hid _ := hKK
  clear hKK
  go_wp2
  refine HK.out _ _ ?_
  clear HK KK
  refine wp_cond_false (by simp [Act.eval, Act.put, hs]) ?_
  refine wp_exit ?_
  refine K.out _ ?_ ?_ 
  · (repeat (refine Fr.set ?_ _ _ (by decide)))
    exact FF.out
  · (repeat (refine Same.set ?_ _ _ (by decide)))
    exact Same.refl _ _
set_option maxRecDepth 100000 in
set_option maxHeartbeats 1600000 in
theorem e95 (Q : Exit → Act → World → Prop) (a : Act) (L : Lw) (w : World) (i : Nat) (h48 : a.tmps[48]? = some (.int .i64 (i : Nat))) (hi : i ≤ 1000) (F : Fr a L)
    (k : ∀ a', Fr a' L → Same [34, 35, 36, 37] a a' → a'.tmps[48]? = some (.int .i64 ((i + 1 : Nat) : Int)) → Q .normal a' w) : (cB (cB L14)).wp Yba.prog Q a w := by
  simp only [L10, L12, L14, L16, B15, nth, c6, Yba.f6, Option.getD, nB, cA, cB, cIn]
  have hs := F.sz
  obtain ⟨p48, h48'⟩ := sl h48
  have FF : Hid (Fr a L) := F
  have K : Hid _ := k
  clear k F
  have w1 : IntKind.i64.wrap ((i : Int) + 1) = ((i + 1 : Nat) : Int) := by rw [wrap_small _ (by omega) (by omega)]; omega
  go_wp2
  refine K.out _ ?_ ?_ (by simp [hs])
  · (repeat (refine Fr.set ?_ _ _ (by decide)))
    exact FF.out
  · (repeat (refine Same.set ?_ _ _ (by decide)))
    exact Same.refl _ _
set_option maxRecDepth 100000 in
set_option maxHeartbeats 1600000 in
theorem e96 (Q : Exit → Act → World → Prop) (a : Act) (L : Lw) (w : World) (i N gs cs qp : Nat) (h48 : a.tmps[48]? = some (.int .i64 (i : Nat))) (hi : i < N) (k1 : w.cell? ⟨L.cf.rb, 109, none⟩ = some (.slice (some ⟨gs, 0, none⟩) N cs)) (c0 : w.cell? ⟨gs, i * 2, none⟩ = some (.int .i64 (-1))) (c1 : w.cell? ⟨gs, i * 2 + 1, none⟩ = some (.iface 120 (.pointer (some ⟨qp, 0, none⟩)))) (F : Fr a L)
    (k : ∀ a', Fr a' L → Same [34, 35, 36, 37, 48] a a' → a'.tmps[49]? = some (.pointer (some ⟨w.heap.size, 0, none⟩)) → Q .normal a' (w.alloc (.cells #[.int .i64 (-1), .iface 120 (.pointer (some ⟨qp, 0, none⟩))] 119))) : (nth 0 B15).wp Yba.prog Q a w := by
  simp only [L10, L12, L14, L16, B15, nth, c6, Yba.f6, Option.getD, nB, cA, cB, cIn]
  have hs := F.sz
  obtain ⟨p26, h26⟩ := sl F.s26
  obtain ⟨p48, h48'⟩ := sl h48
  have FF : Hid (Fr a L) := F
  have K : Hid _ := k
  clear k F
  go_wp2
  refine K.out _ ?_ ?_ (by simp [hs])
  · (repeat (refine Fr.set ?_ _ _ (by decide)))
    exact FF.out
  · (repeat (refine Same.set ?_ _ _ (by decide)))
    exact Same.refl _ _
set_option maxRecDepth 100000 in
set_option maxHeartbeats 1600000 in
theorem e97 (Q : Exit → Act → World → Prop) (a : Act) (L : Lw) (w : World) (b : Nat) (h49 : a.tmps[49]? = some (.pointer (some ⟨b, 0, none⟩))) (c0 : w.cell? ⟨b, 0, none⟩ = some (.int .i64 (-1))) (F : Fr a L)
    (k : ∀ a', Fr a' L → Same [34, 35, 36, 37, 48, 49] a a' → Q .normal a' w) : (nth 1 B15).wp Yba.prog Q a w := by
  simp only [L10, L12, L14, L16, B15, nth, c6, Yba.f6, Option.getD, nB, cA, cB, cIn]
  have hs := F.sz
  obtain ⟨p49, h49'⟩ := sl h49
  have FF : Hid (Fr a L) := F
  have K : Hid _ := k
  clear k F
  refine wp_seq_k fun KK hKK => ?_
  have HK : Hid _ := hKK
  clear hKK
  go_wp2
  refine HK.out _ _ ?_
  clear HK KK
  refine wp_cond_false (by simp [Act.eval, Act.put, hs]) ?_
  refine wp_skip ?_
  refine K.out _ ?_ ?_ 
  · (repeat (refine Fr.set ?_ _ _ (by decide)))
    exact FF.out
  · (repeat (refine Same.set ?_ _ _ (by decide)))
    exact Same.refl _ _
set_option maxRecDepth 100000 in
set_option maxHeartbeats 1600000 in
theorem e99 (Q : Exit → Act → World → Prop) (a : Act) (L : Lw) (w : World) (b qp : Nat) (h49 : a.tmps[49]? = some (.pointer (some ⟨b, 0, none⟩))) (c1 : w.cell? ⟨b, 1, none⟩ = some (.iface 120 (.pointer (some ⟨qp, 0, none⟩)))) (F : Fr a L)
    (k : ∀ a', Fr a' L → Same [34, 35, 36, 37, 48] a a' → a'.tmps[50]? = some (.pointer (some ⟨qp, 0, none⟩)) → a'.tmps[51]? = some (.bool true) → Q .normal a' w) : (nth 2 B15).wp Yba.prog Q a w := by
  simp only [L10, L12, L14, L16, B15, nth, c6, Yba.f6, Option.getD, nB, cA, cB, cIn]
  have hs := F.sz
  obtain ⟨p49, h49'⟩ := sl h49
  have FF : Hid (Fr a L) := F
  have K : Hid _ := k
  clear k F
  have ht := ta120 qp w
  go_wp2
  refine K.out _ ?_ ?_ (by simp [hs]) (by simp [hs])
  · (repeat (refine Fr.set ?_ _ _ (by decide)))
    exact FF.out
  · (repeat (refine Same.set ?_ _ _ (by decide)))
    exact Same.refl _ _
end Go.Proofs.Ybulkcsck.Ga
