/-
  OWN TEXT. LawS4690CGather: a round of the main loop behind the call
-/
import Derived.Test.YbulkcsckGbB
set_option linter.unusedSimpArgs false
set_option linter.unusedVariables false
namespace Go.Proofs.Ybulkcsck.Ga
open Go.RowKit

def cT : Code → Code
  | .cond _ t _ => t
  | c => c
noncomputable def i62 : Code := cT (cB (nth 9 b6))
noncomputable def i70 : Code := cT (cB (nB 14 b6))
noncomputable def l8 : Code := cIn (cIn (cB (nth 1 i70)))
theorem buildL60 (x : Int) (w : World) : (Instr.buildSlice 60 1 #[(0, .int .i64 x)]).run Yba.prog w = .ok (.slice (some ⟨w.heap.size, 0, none⟩) 1 1) (w.alloc (.cells #[.int .i64 x] 3)) := by simp [go_sem]
theorem build107 (p : Option Addr) (n c : Nat) (w : World) : (Instr.buildSlice 107 1 #[(0, .slice p n c)]).run Yba.prog w = .ok (.slice (some ⟨w.heap.size, 0, none⟩) 1 1) (w.alloc (.cells #[.slice p n c] 26)) := by simp [go_sem]

set_option maxRecDepth 100000 in
set_option maxHeartbeats 1600000 in
theorem p60n (Q : Exit → Act → World → Prop) (a : Act) (L : Lw) (w : World) (mb s : Nat) (mt : Bool) (h41 : a.tmps[41]? = some (.pointer (some ⟨mb, 0, none⟩))) (h42 : a.tmps[42]? = some (.bool mt)) (hm : w.cell? ⟨mb, 0, none⟩ = some (.int .i64 (s : Nat))) (hno : L.vot = false ∨ mt = false ∨ s < 1 ∨ 3 < s) (F : Fr a L)
    (k : ∀ a', Fr a' L → Same [34, 35, 36, 37, 38, 39, 40, 41, 42] a a' → Q (.exit 6) a' w) : (nth 7 b6).wp Yba.prog Q a w := by
  unfold nth b6 nth c6
  simp only [Yba.f6, Option.getD, nB, cA, cB, cIn]
  have hs := F.sz
  obtain ⟨p28, h28⟩ := sl F.s28
  obtain ⟨p41, h41'⟩ := sl h41
  obtain ⟨p42, h42'⟩ := sl h42
  have FF : Hid (Fr a L) := F
  have K : Hid _ := k
  clear k F
  generalize L.vot = vt at *
  cases vt
  · skip
    refine wp_seq_k fun KK hKK => ?_
    have HK : Hid _ := hKK
    clear hKK
    go_wp2
    refine HK.out _ _ ?_
    clear HK KK
    refine wp_cond_true (by simp [Act.eval, Act.put, hs]) ?_
    refine wp_exit ?_
    refine K.out _ ?_ ?_
    · (repeat (refine Fr.set ?_ _ _ (by decide)))
      exact FF.out
    · (repeat (refine Same.set ?_ _ _ (by decide)))
      exact Same.refl _ _
  cases mt
  · skip
    refine wp_seq_k fun KK hKK => ?_
    have HK : Hid _ := hKK
    clear hKK
    go_wp2
    refine HK.out _ _ ?_
    clear HK KK
    refine wp_cond_true (by simp [Act.eval, Act.put, hs]) ?_
    refine wp_exit ?_
    refine K.out _ ?_ ?_
    · (repeat (refine Fr.set ?_ _ _ (by decide)))
      exact FF.out
    · (repeat (refine Same.set ?_ _ _ (by decide)))
      exact Same.refl _ _
  by_cases q1 : s < 1
  · skip
    have d1 : decide ((s : Int) < 1) = true := decide_eq_true (by omega)
    refine wp_seq_k fun KK hKK => ?_
    have HK : Hid _ := hKK
    clear hKK
    go_wp2
    refine HK.out _ _ ?_
    clear HK KK
    refine wp_cond_true (by simp [Act.eval, Act.put, hs]) ?_
    refine wp_exit ?_
    refine K.out _ ?_ ?_
    · (repeat (refine Fr.set ?_ _ _ (by decide)))
      exact FF.out
    · (repeat (refine Same.set ?_ _ _ (by decide)))
      exact Same.refl _ _
  have d1 : decide ((s : Int) < 1) = false := decide_eq_false (by omega)
  have d2 : decide ((s : Int) > 3) = true := decide_eq_true (by rcases hno with q | q | q | q <;> first | (cases q; done) | omega)
  clear hno q1
  refine wp_seq_k fun KK hKK => ?_
  have HK : Hid _ := hKK
  clear hKK
  go_wp2
  refine HK.out _ _ ?_
  clear HK KK
  refine wp_cond_true (by simp [Act.eval, Act.put, hs]) ?_
  refine wp_exit ?_
  refine K.out _ ?_ ?_ 
  · (repeat (refine Fr.set ?_ _ _ (by decide)))
    exact FF.out
  · (repeat (refine Same.set ?_ _ _ (by decide)))
    exact Same.refl _ _
set_option maxRecDepth 100000 in
set_option maxHeartbeats 1600000 in
theorem p60y (Q : Exit → Act → World → Prop) (a : Act) (L : Lw) (w : World) (mb s : Nat) (h41 : a.tmps[41]? = some (.pointer (some ⟨mb, 0, none⟩))) (h42 : a.tmps[42]? = some (.bool true)) (hm : w.cell? ⟨mb, 0, none⟩ = some (.int .i64 (s : Nat))) (hv : L.vot = true) (h1 : 1 ≤ s) (h3 : s ≤ 3) (F : Fr a L)
    (k : ∀ a', Fr a' L → Same [34, 35, 36, 37, 38, 39, 40, 41, 42] a a' → Q .normal a' w) : (nth 7 b6).wp Yba.prog Q a w := by
  unfold nth b6 nth c6
  simp only [Yba.f6, Option.getD, nB, cA, cB, cIn]
  have hs := F.sz
  obtain ⟨p28, h28⟩ := sl F.s28
  obtain ⟨p41, h41'⟩ := sl h41
  obtain ⟨p42, h42'⟩ := sl h42
  have FF : Hid (Fr a L) := F
  have K : Hid _ := k
  clear k F
  rw [hv] at h28
  have d1 : decide ((s : Int) < 1) = false := decide_eq_false (by omega)
  have d2 : decide ((s : Int) > 3) = false := decide_eq_false (by omega)
  clear h1 h3 hv
  refine wp_seq_k fun KK hKK => ?_
  have HK : Hid _ := hKK
  clear hKK
  go_wp2
  refine HK.out _ _ ?_
  clear HK KK
  refine wp_cond_false (by simp [Act.eval, Act.put, hs]) ?_
  refine wp_skip ?_
  refine K.out _ ?_ ?_ 
  · (repeat (refine Fr.set ?_ _ _ (by decide)))
    exact FF.out
  · (repeat (refine Same.set ?_ _ _ (by decide)))
    exact Same.refl _ _
set_option maxRecDepth 100000 in
set_option maxHeartbeats 1600000 in
theorem p61 (Q : Exit → Act → World → Prop) (a : Act) (L : Lw) (w : World) (mb s : Nat) (h41 : a.tmps[41]? = some (.pointer (some ⟨mb, 0, none⟩))) (hm : w.cell? ⟨mb, 0, none⟩ = some (.int .i64 (s : Nat))) (F : Fr a L)
    (k : ∀ a', Fr a' L → Same [34, 35, 36, 37, 38, 39, 40, 41, 42] a a' → a'.tmps[43]? = some (.int .i64 (s : Nat)) → Q .normal a' w) : (nth 8 b6).wp Yba.prog Q a w := by
  unfold nth b6 nth c6
  simp only [Yba.f6, Option.getD, nB, cA, cB, cIn]
  have hs := F.sz
  obtain ⟨p41, h41'⟩ := sl h41
  have FF : Hid (Fr a L) := F
  have K : Hid _ := k
  clear k F
  go_wp2
  refine K.out _ ?_ ?_ (by simp [hs])
  · (repeat (refine Fr.set ?_ _ _ (by decide)))
    exact FF.out
  · (repeat (refine Same.set ?_ _ _ (by decide)))
    exact Same.refl _ _
set_option maxRecDepth 100000 in
set_option maxHeartbeats 1600000 in
theorem p62a (Q : Exit → Act → World → Prop) (a : Act) (L : Lw) (w : World) (fr : Nat) (h40 : a.tmps[40]? = some (.int .i64 (fr : Nat))) (hid : fr = L.cf.id) (F : Fr a L)
    (k : ∀ a', Fr a' L → Same [34, 35, 36, 37, 38, 39, 40, 41, 42, 43] a a' → Q .normal a' w) : (nth 9 b6).wp Yba.prog Q a w := by
  unfold nth b6 nth c6
  simp only [Yba.f6, Option.getD, nB, cA, cB, cIn]
  have hs := F.sz
  obtain ⟨p19, h19⟩ := sl F.s19
  obtain ⟨p40, h40'⟩ := sl h40
  have FF : Hid (Fr a L) := F
  have K : Hid _ := k
  clear k F
  rw [hid] at h40'
  clear hid
  refine wp_seq_k fun KK hKK => ?_
  have HK : Hid _ := hKK
  clear hKK
  go_wp2
  refine HK.out _ _ ?_
  clear HK KK
  refine wp_cond_false (by simp [Act.eval, Act.put, hs]) ?_
  refine wp_skip ?_
  refine K.out _ ?_ ?_ 
  · (repeat (refine Fr.set ?_ _ _ (by decide)))
    exact FF.out
  · (repeat (refine Same.set ?_ _ _ (by decide)))
    exact Same.refl _ _
set_option maxRecDepth 100000 in
set_option maxHeartbeats 1600000 in
theorem p62b (Q : Exit → Act → World → Prop) (a : Act) (L : Lw) (w : World) (fr : Nat) (h40 : a.tmps[40]? = some (.int .i64 (fr : Nat))) (hid : fr ≠ L.cf.id) (F : Fr a L)
    (k : ∀ a', Fr a' L → Same [34, 35, 36, 37, 38, 39, 40, 41, 42, 43] a a' → i62.wp Yba.prog Q a' w) : (nth 9 b6).wp Yba.prog Q a w := by
  have e : nth 9 b6 = .seq (cA (nth 9 b6)) (.cond (.tmp 248) i62 .skip) := rfl
  rw [e]
  clear e
  generalize i62 = J at *
  unfold nth b6 nth c6
  simp only [Yba.f6, Option.getD, nB, cA, cB, cIn]
  have hs := F.sz
  obtain ⟨p19, h19⟩ := sl F.s19
  obtain ⟨p40, h40'⟩ := sl h40
  have FF : Hid (Fr a L) := F
  have K : Hid _ := k
  clear k F
  have n1 : ((fr : Int) == (L.cf.id : Int)) = false := by simp; omega
  have n2 : ((fr : Int) != (L.cf.id : Int)) = true := by simp; omega
  clear hid
  refine wp_seq_k fun KK hKK => ?_
  have HK : Hid _ := hKK
  clear hKK
  go_wp2
  refine HK.out _ _ ?_
  clear HK KK
  refine wp_cond_true (by simp [Act.eval, Act.put, hs]) ?_
  refine K.out _ ?_ ?_ 
  · (repeat (refine Fr.set ?_ _ _ (by decide)))
    exact FF.out
  · (repeat (refine Same.set ?_ _ _ (by decide)))
    exact Same.refl _ _
set_option maxRecDepth 100000 in
set_option maxHeartbeats 1600000 in
theorem p63 (Q : Exit → Act → World → Prop) (a : Act) (L : Lw) (w : World) (p : Option Addr) (n c fr : Nat) (v' : Value) (w' : World) (h34 : a.tmps[34]? = some (.slice p n c)) (h40 : a.tmps[40]? = some (.int .i64 (fr : Nat))) (hap : (Builtin.append_ #[60, 60] 60 #[.slice p n c, .slice (some ⟨w.heap.size, 0, none⟩) 1 1]).run Yba.prog (w.alloc (.cells #[.int .i64 (fr : Nat)] 3)) = .ok v' w') (F : Fr a L)
    (k : ∀ a', Fr a' L → Same [35, 36, 37, 38, 39, 40, 41, 42, 43] a a' → a'.tmps[34]? = some v' → Q .normal a' w') : (nth 0 i62).wp Yba.prog Q a w := by
  simp only [i62, i70, l8, nth, b6, c6, Yba.f6, Option.getD, nB, cA, cB, cIn, cT]
  have hs := F.sz
  obtain ⟨p34, h34'⟩ := sl h34
  obtain ⟨p40, h40'⟩ := sl h40
  have FF : Hid (Fr a L) := F
  have K : Hid _ := k
  clear k F
  have HAP : Hid _ := hap
  clear hap
  refine wp_region_lit ?_
  iterate 2 (refine wpList_val rfl _ (by simp [go_sem, execOp, Act.eval, Act.put, hs, h34', h40']; first | done | rfl) ?_)
  refine wpList_plain rfl fun _ hK => ?_
  refine Rt.wp_buildSlice (vs := #[(0, .int .i64 (fr : Nat))]) rfl (by simp [Act.eval, Act.put, hs]) (buildL60 _ w) ?_
  refine hK _ _ ?_
  refine wpList_append_any rfl (.tmp 249) (.tmp 251) 60 60 60 rfl rfl (v := .slice p n c) (y := .slice (some ⟨w.heap.size, 0, none⟩) 1 1) (by simp [Act.eval, Act.put, hs]) (by simp [Act.eval, Act.put, hs]) HAP.out ?_
  simp only [Act.put]
  go_wp2
  refine K.out _ ?_ ?_ (by simp [hs])
  · (repeat (refine Fr.set ?_ _ _ (by decide)))
    exact FF.out
  · (repeat (refine Same.set ?_ _ _ (by decide)))
    exact Same.refl _ _
set_option maxRecDepth 100000 in
set_option maxHeartbeats 1600000 in
theorem p64 (Q : Exit → Act → World → Prop) (a : Act) (L : Lw) (w : World) (p : Option Addr) (n c s : Nat) (h35 : a.tmps[35]? = some (.slice p n c)) (h43 : a.tmps[43]? = some (.int .i64 (s : Nat))) (R : Value → World → Prop) (hb : w.rangeAt L.bb 0 (u8s L.bid)) (hbl : L.bid.length = 32) (hc : Calls Yba.prog 15 #[.int .i64 (s : Nat), .int .i64 L.ep, .int .i64 L.cf.vw, .agg (u8s L.bid).toArray] w fun e w1 => ∃ p1 c1 v' w', e = .returned (.slice p1 71 c1) ∧ (Builtin.append_ #[76, 76] 76 #[.slice p n c, .slice (some ⟨w1.heap.size, 0, none⟩) 1 1]).run Yba.prog (w1.alloc (.cells #[.slice p1 71 c1] 37)) = .ok v' w' ∧ R v' w') (F : Fr a L)
    (k : ∀ a' v' w', R v' w' → Fr a' L → Same [34, 36, 37, 38, 39, 40, 41, 42, 43] a a' → a'.tmps[35]? = some v' → Q .normal a' w') : (nth 1 i62).wp Yba.prog Q a w := by
  simp only [i62, i70, l8, nth, b6, c6, Yba.f6, Option.getD, nB, cA, cB, cIn, cT]
  have hs := F.sz
  obtain ⟨p5, h5⟩ := sl F.s5
  obtain ⟨p6, h6⟩ := sl F.s6
  obtain ⟨p23, h23⟩ := sl F.s23
  obtain ⟨p35, h35'⟩ := sl h35
  obtain ⟨p43, h43'⟩ := sl h43
  have FF : Hid (Fr a L) := F
  have K : Hid _ := k
  clear k F
  have HC : Hid (Calls Yba.prog 15 #[.int .i64 (s : Nat), .int .i64 L.ep, .int .i64 L.cf.vw, .agg (u8s L.bid).toArray] w fun e w1 => ∃ p1 c1 v' w', e = .returned (.slice p1 71 c1) ∧ (Builtin.append_ #[76, 76] 76 #[.slice p n c, .slice (some ⟨w1.heap.size, 0, none⟩) 1 1]).run Yba.prog (w1.alloc (.cells #[.slice p1 71 c1] 37)) = .ok v' w' ∧ R v' w') := hc
  have HB : Hid (w.rangeAt L.bb 0 (u8s L.bid)) := hb
  have HI : Hid ((Yba.prog.info? 30).map (·.size) = some (u8s L.bid).length) := inf30 hbl
  clear hc hb hbl
  refine wp_region_lit ?_
  iterate 4 (refine wpList_val rfl _ (by simp [go_sem, execOp, Act.eval, Act.put, hs, h35', h43', h5, h6]; first | done | rfl) ?_)
  refine wpList_load_mid rfl 30 (.tmp 23) rfl L.bb 0 (by simp [Act.eval, Act.put, hs, h23]) (u8s L.bid) _ HB.out Yba.underlying30 rfl HI.out ?_
  refine wpList_plain rfl fun _ hK => ?_
  refine Rt.wp_call (vs := #[.int .i64 (s : Nat), .int .i64 L.ep, .int .i64 L.cf.vw, .agg (u8s L.bid).toArray]) rfl ?_ (Yba.call15 _) ?_
  · simp [Act.eval, Act.put, hs]
  refine HC.out.mono ?_
  rintro e w1 ⟨p1, c1, v', w', rfl, hap, hR⟩
  refine ⟨_, rfl, hK _ _ ?_⟩
  clear hK HC
  refine wpList_plain rfl fun _ hK => ?_
  refine Rt.wp_buildSlice (vs := #[(0, .slice p1 71 c1)]) rfl (by simp [Act.eval, Act.put, hs]) (build76 (.slice p1 71 c1) rfl p1 71 c1 rfl w1) ?_
  refine hK _ _ ?_
  refine wpList_append_any rfl (.tmp 253) (.tmp 259) 76 76 76 rfl rfl (v := .slice p n c) (y := .slice (some ⟨w1.heap.size, 0, none⟩) 1 1) (by simp [Act.eval, Act.put, hs]) (by simp [Act.eval, Act.put, hs]) hap ?_
  clear hap
  simp only [Act.put]
  go_wp2
  refine K.out _ _ _ hR ?_ ?_ (by simp [hs])
  · (repeat (refine Fr.set ?_ _ _ (by decide)))
    exact FF.out
  · (repeat (refine Same.set ?_ _ _ (by decide)))
    exact Same.refl _ _
set_option maxRecDepth 100000 in
set_option maxHeartbeats 1600000 in
theorem p65n (Q : Exit → Act → World → Prop) (a : Act) (L : Lw) (w : World) (b : Nat) (d : SD) (h39 : a.tmps[39]? = some (.pointer (some ⟨b, 0, none⟩))) (hr : w.rangeAt b 0 d.L) (hok : d.ok = false) (F : Fr a L)
    (k : ∀ a', Fr a' L → Same [34, 35, 36, 37, 38, 39, 40, 41, 42, 43] a a' → Q (.exit 6) a' w) : (nB 2 i62).wp Yba.prog Q a w := by
  simp only [i62, i70, l8, nth, b6, c6, Yba.f6, Option.getD, nB, cA, cB, cIn, cT]
  have hs := F.sz
  obtain ⟨p39, h39'⟩ := sl h39
  have FF : Hid (Fr a L) := F
  have K : Hid _ := k
  clear k F
  have c3 : w.cell? ⟨b, 3, none⟩ = some (.bool d.ok) := hr 3 _ rfl
  rw [hok] at c3
  clear hr hok
  refine wp_seq_k fun KK hKK => ?_
  have HK : Hid _ := hKK
  clear hKK
  go_wp2
  refine HK.out _ _ ?_
  clear HK KK
  refine wp_cond_true (by simp [Act.eval, Act.put, hs]) ?_
  refine wp_exit ?_
  refine K.out _ ?_ ?_ 
  · (repeat (refine Fr.set ?_ _ _ (by decide)))
    exact FF.out
  · (repeat (refine Same.set ?_ _ _ (by decide)))
    exact Same.refl _ _
set_option maxRecDepth 100000 in
set_option maxHeartbeats 1600000 in
theorem p65y (Q : Exit → Act → World → Prop) (a : Act) (L : Lw) (w : World) (b : Nat) (d : SD) (h39 : a.tmps[39]? = some (.pointer (some ⟨b, 0, none⟩))) (hr : w.rangeAt b 0 d.L) (hok : d.ok = true) (F : Fr a L)
    (k : ∀ a', Fr a' L → Same [34, 35, 36, 37, 38, 39, 40, 41, 42, 43] a a' → Q .normal a' w) : (nB 2 i62).wp Yba.prog Q a w := by
  simp only [i62, i70, l8, nth, b6, c6, Yba.f6, Option.getD, nB, cA, cB, cIn, cT]
  have hs := F.sz
  obtain ⟨p39, h39'⟩ := sl h39
  have FF : Hid (Fr a L) := F
  have K : Hid _ := k
  clear k F
  have c3 : w.cell? ⟨b, 3, none⟩ = some (.bool d.ok) := hr 3 _ rfl
  rw [hok] at c3
  clear hr hok
  refine wp_seq_k fun KK hKK => ?_
  have HK : Hid _ := hKK
  clear hKK
  go_wp2
  refine HK.out _ _ ?_
  clear HK KK
  refine wp_cond_false (by simp [Act.eval, Act.put, hs]) ?_
  refine wp_skip ?_
  refine K.out _ ?_ ?_ 
  · (repeat (refine Fr.set ?_ _ _ (by decide)))
    exact FF.out
  · (repeat (refine Same.set ?_ _ _ (by decide)))
    exact Same.refl _ _
set_option maxRecDepth 100000 in
set_option maxHeartbeats 1600000 in
theorem p66y (Q : Exit → Act → World → Prop) (a : Act) (L : Lw) (w : World) (fr : Nat) (hfr : fr < L.cf.n) (h40 : a.tmps[40]? = some (.int .i64 (fr : Nat))) (s : Nat) (h1 : 1 ≤ s) (h3 : s ≤ 3) (h43 : a.tmps[43]? = some (.int .i64 (s : Nat))) (hA : w.cell? ⟨L.hA, s, none⟩ = some (.slice (some ⟨L.lh s, 0, none⟩) L.cf.n L.cf.n)) (hc : w.cell? ⟨L.lh s, fr, none⟩ = some (.bool true)) (F : Fr a L)
    (k : ∀ a', Fr a' L → Same [34, 35, 36, 37, 38, 39, 40, 41, 42, 43] a a' → Q (.exit 6) a' w) : (nth 10 b6).wp Yba.prog Q a w := by
  unfold nth b6 nth c6
  simp only [Yba.f6, Option.getD, nB, cA, cB, cIn]
  have hs := F.sz
  obtain ⟨p30, h30⟩ := sl F.s30
  obtain ⟨p40, h40'⟩ := sl h40
  obtain ⟨p43, h43'⟩ := sl h43
  have FF : Hid (Fr a L) := F
  have K : Hid _ := k
  clear k F
  have s4 : ((s : Nat) : Int) < 4 := by omega
  refine wp_seq_k fun KK hKK => ?_
  have HK : Hid _ := hKK
  clear hKK
  go_wp2
  refine HK.out _ _ ?_
  clear HK KK
  refine wp_cond_true (by simp [Act.eval, Act.put, hs]) ?_
  refine wp_exit ?_
  refine K.out _ ?_ ?_ 
  · (repeat (refine Fr.set ?_ _ _ (by decide)))
    exact FF.out
  · (repeat (refine Same.set ?_ _ _ (by decide)))
    exact Same.refl _ _
set_option maxRecDepth 100000 in
set_option maxHeartbeats 1600000 in
theorem p66n (Q : Exit → Act → World → Prop) (a : Act) (L : Lw) (w : World) (fr : Nat) (hfr : fr < L.cf.n) (h40 : a.tmps[40]? = some (.int .i64 (fr : Nat))) (s : Nat) (h1 : 1 ≤ s) (h3 : s ≤ 3) (h43 : a.tmps[43]? = some (.int .i64 (s : Nat))) (hA : w.cell? ⟨L.hA, s, none⟩ = some (.slice (some ⟨L.lh s, 0, none⟩) L.cf.n L.cf.n)) (hc : w.cell? ⟨L.lh s, fr, none⟩ = some (.bool false)) (F : Fr a L)
    (k : ∀ a', Fr a' L → Same [34, 35, 36, 37, 38, 39, 40, 41, 42, 43] a a' → Q .normal a' w) : (nth 10 b6).wp Yba.prog Q a w := by
  unfold nth b6 nth c6
  simp only [Yba.f6, Option.getD, nB, cA, cB, cIn]
  have hs := F.sz
  obtain ⟨p30, h30⟩ := sl F.s30
  obtain ⟨p40, h40'⟩ := sl h40
  obtain ⟨p43, h43'⟩ := sl h43
  have FF : Hid (Fr a L) := F
  have K : Hid _ := k
  clear k F
  have s4 : ((s : Nat) : Int) < 4 := by omega
  refine wp_seq_k fun KK hKK => ?_
  have HK : Hid _ := hKK
  clear hKK
  go_wp2
  refine HK.out _ _ ?_
  clear HK KK
  refine wp_cond_false (by simp [Act.eval, Act.put, hs]) ?_
  refine wp_skip ?_
  refine K.out _ ?_ ?_ 
  · (repeat (refine Fr.set ?_ _ _ (by decide)))
    exact FF.out
  · (repeat (refine Same.set ?_ _ _ (by decide)))
    exact Same.refl _ _
set_option maxRecDepth 100000 in
set_option maxHeartbeats 1600000 in
theorem p67 (Q : Exit → Act → World → Prop) (a : Act) (L : Lw) (w : World) (fr : Nat) (hfr : fr < L.cf.n) (h40 : a.tmps[40]? = some (.int .i64 (fr : Nat))) (s : Nat) (h1 : 1 ≤ s) (h3 : s ≤ 3) (h43 : a.tmps[43]? = some (.int .i64 (s : Nat))) (hA : w.cell? ⟨L.hA, s, none⟩ = some (.slice (some ⟨L.lh s, 0, none⟩) L.cf.n L.cf.n)) (u : Value) (hc : w.cell? ⟨L.lh s, fr, none⟩ = some u) (hz : w.frozen? ⟨L.lh s, fr, none⟩ = false) (F : Fr a L)
    (k : ∀ a', Fr a' L → Same [34, 35, 36, 37, 38, 39, 40, 41, 42, 43] a a' → Q .normal a' (w.setCell ⟨L.lh s, fr, none⟩ (.bool true))) : (nth 11 b6).wp Yba.prog Q a w := by
  unfold nth b6 nth c6
  simp only [Yba.f6, Option.getD, nB, cA, cB, cIn]
  have hs := F.sz
  obtain ⟨p30, h30⟩ := sl F.s30
  obtain ⟨p40, h40'⟩ := sl h40
  obtain ⟨p43, h43'⟩ := sl h43
  have FF : Hid (Fr a L) := F
  have K : Hid _ := k
  clear k F
  have s4 : ((s : Nat) : Int) < 4 := by omega
  go_wp2
  refine K.out _ ?_ ?_ 
  · (repeat (refine Fr.set ?_ _ _ (by decide)))
    exact FF.out
  · (repeat (refine Same.set ?_ _ _ (by decide)))
    exact Same.refl _ _
set_option maxRecDepth 100000 in
set_option maxHeartbeats 1600000 in
theorem p68 (Q : Exit → Act → World → Prop) (a : Act) (L : Lw) (w : World) (fr j : Nat) (hfr : fr < L.cf.n) (h40 : a.tmps[40]? = some (.int .i64 (fr : Nat))) (h38 : a.tmps[38]? = some (.int .i64 (j : Nat))) (s : Nat) (h1 : 1 ≤ s) (h3 : s ≤ 3) (h43 : a.tmps[43]? = some (.int .i64 (s : Nat))) (hI : w.cell? ⟨L.iA, s, none⟩ = some (.slice (some ⟨L.li s, 0, none⟩) L.cf.n L.cf.n)) (u : Value) (hc : w.cell? ⟨L.li s, fr, none⟩ = some u) (hz : w.frozen? ⟨L.li s, fr, none⟩ = false) (F : Fr a L)
    (k : ∀ a', Fr a' L → Same [34, 35, 36, 37, 38, 39, 40, 41, 42, 43] a a' → Q .normal a' (w.setCell ⟨L.li s, fr, none⟩ (.int .i64 (j : Nat)))) : (nth 12 b6).wp Yba.prog Q a w := by
  unfold nth b6 nth c6
  simp only [Yba.f6, Option.getD, nB, cA, cB, cIn]
  have hs := F.sz
  obtain ⟨p31, h31⟩ := sl F.s31
  obtain ⟨p38, h38'⟩ := sl h38
  obtain ⟨p40, h40'⟩ := sl h40
  obtain ⟨p43, h43'⟩ := sl h43
  have FF : Hid (Fr a L) := F
  have K : Hid _ := k
  clear k F
  have s4 : ((s : Nat) : Int) < 4 := by omega
  go_wp2
  refine K.out _ ?_ ?_ 
  · (repeat (refine Fr.set ?_ _ _ (by decide)))
    exact FF.out
  · (repeat (refine Same.set ?_ _ _ (by decide)))
    exact Same.refl _ _
set_option maxRecDepth 100000 in
set_option maxHeartbeats 1600000 in
theorem p69 (Q : Exit → Act → World → Prop) (a : Act) (L : Lw) (w : World) (s : Nat) (h1 : 1 ≤ s) (h3 : s ≤ 3) (h43 : a.tmps[43]? = some (.int .i64 (s : Nat))) (n : Nat) (hn : n ≤ 1000) (hc : w.cell? ⟨L.cA, s, none⟩ = some (.int .i64 (n : Nat))) (hz : w.frozen? ⟨L.cA, s, none⟩ = false) (F : Fr a L)
    (k : ∀ a', Fr a' L → Same [34, 35, 36, 37, 38, 39, 40, 41, 42, 43] a a' → Q .normal a' (w.setCell ⟨L.cA, s, none⟩ (.int .i64 ((n + 1 : Nat) : Int)))) : (nth 13 b6).wp Yba.prog Q a w := by
  unfold nth b6 nth c6
  simp only [Yba.f6, Option.getD, nB, cA, cB, cIn]
  have hs := F.sz
  obtain ⟨p32, h32⟩ := sl F.s32
  obtain ⟨p43, h43'⟩ := sl h43
  have FF : Hid (Fr a L) := F
  have K : Hid _ := k
  clear k F
  have s4 : ((s : Nat) : Int) < 4 := by omega
  have w1 : IntKind.i64.wrap ((n : Int) + 1) = ((n + 1 : Nat) : Int) := by rw [wrap_small _ (by omega) (by omega)]; omega
  go_wp2
  refine K.out _ ?_ ?_ 
  · (repeat (refine Fr.set ?_ _ _ (by decide)))
    exact FF.out
  · (repeat (refine Same.set ?_ _ _ (by decide)))
    exact Same.refl _ _
set_option maxRecDepth 100000 in
set_option maxHeartbeats 1600000 in
theorem p70n (Q : Exit → Act → World → Prop) (a : Act) (L : Lw) (w : World) (s : Nat) (h1 : 1 ≤ s) (h3 : s ≤ 3) (h43 : a.tmps[43]? = some (.int .i64 (s : Nat))) (n : Nat) (hc : w.cell? ⟨L.cA, s, none⟩ = some (.int .i64 (n : Nat))) (hq : ((n : Int) == ((L.cf.n - L.cf.f : Nat) : Int)) = false) (F : Fr a L)
    (k : ∀ a', Fr a' L → Same [34, 35, 36, 37, 38, 39, 40, 41, 42, 43] a a' → Q .normal a' w) : (nB 14 b6).wp Yba.prog Q a w := by
  simp only [i62, i70, l8, nth, b6, c6, Yba.f6, Option.getD, nB, cA, cB, cIn, cT]
  have hs := F.sz
  obtain ⟨p29, h29⟩ := sl F.s29
  obtain ⟨p32, h32⟩ := sl F.s32
  obtain ⟨p43, h43'⟩ := sl h43
  have FF : Hid (Fr a L) := F
  have K : Hid _ := k
  clear k F
  have s4 : ((s : Nat) : Int) < 4 := by omega
  refine wp_seq_k fun KK hKK => ?_
  have HK : Hid _ := hKK
  clear hKK
  go_wp2
  refine HK.out _ _ ?_
  clear HK KK
  refine wp_cond_false (by simp [Act.eval, Act.put, hs]) ?_
  refine wp_skip ?_
  refine K.out _ ?_ ?_ 
  · (repeat (refine Fr.set ?_ _ _ (by decide)))
    exact FF.out
  · (repeat (refine Same.set ?_ _ _ (by decide)))
    exact Same.refl _ _
set_option maxRecDepth 100000 in
set_option maxHeartbeats 1600000 in
theorem p70y (Q : Exit → Act → World → Prop) (a : Act) (L : Lw) (w : World) (s : Nat) (h1 : 1 ≤ s) (h3 : s ≤ 3) (h43 : a.tmps[43]? = some (.int .i64 (s : Nat))) (n : Nat) (hc : w.cell? ⟨L.cA, s, none⟩ = some (.int .i64 (n : Nat))) (hq : ((n : Int) == ((L.cf.n - L.cf.f : Nat) : Int)) = true) (F : Fr a L)
    (k : ∀ a', Fr a' L → Same [34, 35, 36, 37, 38, 39, 40, 41, 42, 43] a a' → i70.wp Yba.prog Q a' w) : (nB 14 b6).wp Yba.prog Q a w := by
  have e : nB 14 b6 = .seq (cA (nB 14 b6)) (.cond (.tmp 290) i70 .skip) := rfl
  rw [e]
  clear e
  generalize i70 = J at *
  simp only [i62, i70, l8, nth, b6, c6, Yba.f6, Option.getD, nB, cA, cB, cIn, cT]
  have hs := F.sz
  obtain ⟨p29, h29⟩ := sl F.s29
  obtain ⟨p32, h32⟩ := sl F.s32
  obtain ⟨p43, h43'⟩ := sl h43
  have FF : Hid (Fr a L) := F
  have K : Hid _ := k
  clear k F
  have s4 : ((s : Nat) : Int) < 4 := by omega
  refine wp_seq_k fun KK hKK => ?_
  have HK : Hid _ := hKK
  clear hKK
  go_wp2
  refine HK.out _ _ ?_
  clear HK KK
  refine wp_cond_true (by simp [Act.eval, Act.put, hs]) ?_
  refine K.out _ ?_ ?_ 
  · (repeat (refine Fr.set ?_ _ _ (by decide)))
    exact FF.out
  · (repeat (refine Same.set ?_ _ _ (by decide)))
    exact Same.refl _ _
end Go.Proofs.Ybulkcsck.Ga
