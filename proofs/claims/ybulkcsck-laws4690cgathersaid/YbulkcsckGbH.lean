/-
  OWN TEXT. LawS4690CGather: the main loop
-/
import Derived.Test.YbulkcsckGbG
set_option linter.unusedSimpArgs false
set_option linter.unusedVariables false
namespace Go.Proofs.Ybulkcsck.Ga
open Go.RowKit

noncomputable def lp : Code := cIn (cIn (cB (nth 27 c6)))
set_option maxRecDepth 100000 in
set_option maxHeartbeats 1600000 in
theorem p41 (Q : Exit → Act → World → Prop) (a : Act) (L : Lw) (w : World)  (F : Fr a L)
    (k : ∀ a', Fr a' L → Same [34, 35, 36, 37] a a' → a'.tmps[38]? = some (.int .i64 ((0 : Nat) : Int)) → Q .normal a' w) : (cA (nth 27 c6)).wp Yba.prog Q a w := by
  simp only [lp, nth, c6, Yba.f6, Option.getD, nB, cA, cB, cIn]
  have hs := F.sz
  have FF : Hid (Fr a L) := F
  have K : Hid _ := k
  clear k F
  go_wp2
  refine K.out _ ?_ ?_ (by simp [hs])
  · (repeat (refine Fr.set ?_ _ _ (by decide)))
    exact FF.out
  · (repeat (refine Same.set ?_ _ _ (by decide)))
    exact Same.refl _ _
set_option maxRecDepth 100000 in
set_option maxHeartbeats 1600000 in
theorem p42y (Q : Exit → Act → World → Prop) (a : Act) (L : Lw) (w : World) (j : Nat) (h38 : a.tmps[38]? = some (.int .i64 (j : Nat))) (hi : j < L.ln) (F : Fr a L)
    (k : ∀ a', Fr a' L → Same [34, 35, 36, 37, 38] a a' → Q .normal a' w) : (cA lp).wp Yba.prog Q a w := by
  simp only [lp, nth, c6, Yba.f6, Option.getD, nB, cA, cB, cIn]
  have hs := F.sz
  obtain ⟨p7, h7⟩ := sl F.s7
  obtain ⟨p38, h38'⟩ := sl h38
  have FF : Hid (Fr a L) := F
  have K : Hid _ := k
  clear k F
  have d1 : decide ((j : Int) < (L.ln : Int)) = true := decide_eq_true (by omega)
  refine wp_seq_k fun KK hKK => ?_
  have HK : Hid _ := hKK
  clear hKK
  go_wp2
  refine HK.out _ _ ?_
  clear HK KK
  refine wp_cond_true (by simp [Act.eval, Act.put, hs]) ?_
  refine wp_skip ?_
  refine K.out _ ?_ ?_ 
  · (repeat (refine Fr.set ?_ _ _ (by decide)))
    exact FF.out
  · (repeat (refine Same.set ?_ _ _ (by decide)))
    exact Same.refl _ _
set_option maxRecDepth 100000 in
set_option maxHeartbeats 1600000 in
theorem p42n (Q : Exit → Act → World → Prop) (a : Act) (L : Lw) (w : World) (j : Nat) (h38 : a.tmps[38]? = some (.int .i64 (j : Nat))) (hi : ¬ j < L.ln) (F : Fr a L)
    (k : ∀ a', Fr a' L → Same [34, 35, 36, 37, 38] a a' → Q (.exit 5) a' w) : (cA lp).wp Yba.prog Q a w := by
  simp only [lp, nth, c6, Yba.f6, Option.getD, nB, cA, cB, cIn]
  have hs := F.sz
  obtain ⟨p7, h7⟩ := sl F.s7
  obtain ⟨p38, h38'⟩ := sl h38
  have FF : Hid (Fr a L) := F
  have K : Hid _ := k
  clear k F
  have d1 : decide ((j : Int) < (L.ln : Int)) = false := decide_eq_false (by omega)
  refine wp_seq_k fun KK hKK => ?_
  have HK : Hid _ := hKK
  clear hKK
  go_wp2
  refine HK.out _ _ ?_
  clear HK KK
  refine wp_cond_false (by simp [Act.eval, Act.put, hs]) ?_
  refine wp_exit ?_
  refine K.out _ ?_ ?_ 
  · (repeat (refine Fr.set ?_ _ _ (by decide)))
    exact FF.out
  · (repeat (refine Same.set ?_ _ _ (by decide)))
    exact Same.refl _ _
set_option maxRecDepth 100000 in
set_option maxHeartbeats 1600000 in
theorem p43 (Q : Exit → Act → World → Prop) (a : Act) (L : Lw) (w : World) (j : Nat) (h38 : a.tmps[38]? = some (.int .i64 (j : Nat))) (hi : j ≤ 1000) (F : Fr a L)
    (k : ∀ a', Fr a' L → Same [34, 35, 36, 37] a a' → a'.tmps[38]? = some (.int .i64 ((j + 1 : Nat) : Int)) → Q .normal a' w) : (cB (cB lp)).wp Yba.prog Q a w := by
  simp only [lp, nth, c6, Yba.f6, Option.getD, nB, cA, cB, cIn]
  have hs := F.sz
  obtain ⟨p38, h38'⟩ := sl h38
  have FF : Hid (Fr a L) := F
  have K : Hid _ := k
  clear k F
  have w1 : IntKind.i64.wrap ((j : Int) + 1) = ((j + 1 : Nat) : Int) := by rw [wrap_small _ (by omega) (by omega)]; omega
  go_wp2
  refine K.out _ ?_ ?_ (by simp [hs])
  · (repeat (refine Fr.set ?_ _ _ (by decide)))
    exact FF.out
  · (repeat (refine Same.set ?_ _ _ (by decide)))
    exact Same.refl _ _

theorem vote_at {w : World} {mb : Nat} {s e v : Int} {bm : List Int} {sv : Value} (h : w.heap[mb]? = some (.cells (qcL s e v bm sv).toArray 112 (0, 0))) (hl : bm.length = 32) : VoteAt mb s e v bm w ∧ w.cell? ⟨mb, 35, none⟩ = some sv := by
  have c : ∀ (i : Nat) (u : Value), (qcL s e v bm sv)[i]? = some u → w.cell? ⟨mb, i, none⟩ = some u := fun i u hu => by simp [World.cell?, h, hu]
  have hl' : (u8s bm).length = 32 := by simp [u8s, hl]
  refine ⟨⟨c 0 _ rfl, c 1 _ rfl, c 2 _ rfl, fun i u hi => ?_⟩, c 35 _ (by simp [qcL, hl'])⟩
  refine c (3 + i) u ?_
  have := (List.getElem?_eq_some_iff.1 hi).1
  rw [Nat.add_comm]
  simp only [qcL, List.getElem?_cons_succ]
  rw [List.getElem?_append_left (by omega)]
  exact hi
theorem heap_set {w : World} {b : Nat} {c : Array Value} {t : TypeId} (h : w.heap[b]? = some (.cells c t (0, 0))) (i : Nat) (v : Value) : (w.setCell ⟨b, i, none⟩ v).heap[b]? = some (.cells (c.setIfInBounds i v) t (0, 0)) := (Bk.set (ρ := fun _ => 0) (r := 0) ⟨h, rfl⟩ i v).h

theorem LM.ans {ρ : Nat → Nat} {L : Lw} {w0 w : World} {g : Gh} {ix : Nat → List Nat} {v34 v35 v36 v37 : Value} (h : LM ρ L w0 g ix v34 v35 v36 v37 w) (b : Bool) : LM ρ L w0 { g with ans := b } ix v34 v35 v36 v37 w := ⟨h.i0, h.bd, h.pb, h.wf, h.ws, h.lh, h.li, h.lc, h.lq⟩

/-- the switch -/
theorem p48 (Q : Exit → Act → World → Prop) (a : Act) (L : Lw) (w : World) (b mb : Nat) (d : SD) (s : Int) (sv : Value) (F : Fr a L) (h39 : a.tmps[39]? = some (.pointer (some ⟨b, 0, none⟩))) (h41 : a.tmps[41]? = some (.pointer (some ⟨mb, 0, none⟩))) (h42 : a.tmps[42]? = some (.bool true)) (hb : w.heap[b]? = some (.cells d.L.toArray 109 (0, 0))) (hm : w.heap[mb]? = some (.cells (qcL s L.ep L.cf.vw L.bid sv).toArray 112 (0, 0))) (hne : b ≠ mb)
    (hbl : L.bid.length = 32) (hbt : ∃ t, L.bid = L.tg :: t) (htg : 0 ≤ L.tg ∧ L.tg ≤ 255)
    (k : ∀ a' w' mt e v bm, Fr a' L → Same [34, 35, 36, 37, 38, 39, 40, 41] a a' → a'.tmps[42]? = some (.bool mt) → w'.heap[mb]? = some (.cells (qcL s e v bm sv).toArray 112 (0, 0)) → w'.heap[b]? = some (.cells d.L.toArray 109 (0, 0)) → bm.length = 32 → (mt = true → e = L.ep ∧ v = L.cf.vw ∧ bm = L.bid) → (mt = false → e ≠ L.ep ∨ v ≠ L.cf.vw ∨ bm ≠ L.bid) → (∀ B, B ≤ mb → Below B w w') → Q .normal a' w') : (nth 4 b6).wp Yba.prog Q a w := by
  have hr : w.rangeAt b 0 d.L := Bk.range (ρ := fun _ => 0) (r := 0) ⟨hb, rfl⟩
  have hv := (vote_at hm hbl).1
  have fz : ∀ i, w.frozen? ⟨mb, i, none⟩ = false := fun i => Bk.fz (ρ := fun _ => 0) (r := 0) ⟨hm, rfl⟩ i
  have keep : ∀ i v, (w.setCell ⟨mb, i, none⟩ v).heap[b]? = some (.cells d.L.toArray 109 (0, 0)) := fun i v => (Below.heap_setCell w ⟨mb, i, none⟩ v b hne).trans hb
  have bel : ∀ i v B, B ≤ mb → Below B w (w.setCell ⟨mb, i, none⟩ v) := fun i v B hB => (Below.refl B w).setCell hB v
  rcases (by omega : d.ms % 8 = 0 ∨ d.ms % 8 = 1 ∨ d.ms % 8 = 2 ∨ 3 ≤ d.ms % 8) with h | h | h | h
  · refine p48a _ a L w b mb d F h39 h41 h42 hr h _ hv.2.1 (fz 1) fun a' F' S' q => ?_
    refine k a' _ false (bits .xor .i64 L.ep 1) L.cf.vw L.bid F' S' q ?_ (keep _ _) hbl (fun h => by cases h) (fun _ => .inl (xor1_i64 _)) (bel _ _)
    have := heap_set hm 1 (.int .i64 (bits .xor .i64 L.ep 1))
    simpa [qcL] using this
  · refine p48b _ a L w b mb d F h39 h41 h42 hr h _ hv.2.2.1 (fz 2) fun a' F' S' q => ?_
    refine k a' _ false L.ep (bits .xor .i64 L.cf.vw 1) L.bid F' S' q ?_ (keep _ _) hbl (fun h => by cases h) (fun _ => .inr (.inl (xor1_i64 _))) (bel _ _)
    have := heap_set hm 2 (.int .i64 (bits .xor .i64 L.cf.vw 1))
    simpa [qcL] using this
  · obtain ⟨t, ht⟩ := hbt
    have c3 : w.cell? ⟨mb, 3, none⟩ = some (.int .u8 L.tg) := hv.2.2.2 0 _ (by rw [ht]; rfl)
    refine p48c _ a L w b mb d F h39 h41 h42 hr h _ c3 (fz 3) fun a' F' S' q => ?_
    refine k a' _ false L.ep L.cf.vw (IntKind.u8.wrap (L.tg + 1) :: t) F' S' q ?_ (keep _ _) (by rw [ht] at hbl; simpa using hbl) (fun h => by cases h) (fun _ => .inr (.inr ?_)) (bel _ _)
    · have := heap_set hm 3 (.int .u8 (IntKind.u8.wrap (L.tg + 1)))
      rw [ht] at this
      simpa [qcL, u8s] using this
    · rw [ht]
      intro e
      have := (List.cons.inj e).1
      rw [IntKind.wrap_u8] at this
      omega
  · refine p48d _ a L w b mb d F h39 h41 h42 hr h fun a' F' S' q => ?_
    exact k a' w true L.ep L.cf.vw L.bid F' S' q hm hb hbl (fun _ => ⟨rfl, rfl, rfl⟩) (fun h => by cases h) (fun B _ => Below.refl B w)

theorem Rep.ans {ρ : Nat → Nat} {cf : Cf} {ep : Int} {bid : List Int} {g : Gh} {w : World} (h : Rep ρ cf ep bid g w) (x : Bool) :
    Rep ρ cf ep bid { g with ans := x } (w.setCell ⟨cf.kb, 1, none⟩ (.bool x)) ∧ Chg ρ ρ (fun r => r = 2) w (w.setCell ⟨cf.kb, 1, none⟩ (.bool x)) ∧ w.cell? ⟨cf.kb, 1, none⟩ = some (.bool g.ans) ∧ w.frozen? ⟨cf.kb, 1, none⟩ = false := by
  obtain ⟨vf, vn, vs, ss, k1, k2, k3, k4, k5, k6⟩ := h.k
  have c : Chg ρ ρ (fun r => r = 2) w (w.setCell ⟨cf.kb, 1, none⟩ (.bool x)) := Chg.setCell w _ 1 _ k1.r
  refine ⟨?_, c, k1.cell rfl, k1.fz 1⟩
  obtain ⟨C, inV, mV, snV, a1, a2, a3, a4, a5⟩ := h.r
  exact ⟨⟨C, inV, mV, snV, a1.chg c (by decide), a2, a3.chg c (by decide), a4.chg c (by decide), a5.chg c (by decide)⟩, ⟨vf, vn, vs, ss, k1.set 1 (.bool x), k2.chg c (by decide), k3.chg c (by decide), k4.chg c (by decide), k5.chg c (by decide), k6⟩,
    h.s1.chg c (by decide) (by decide) (by decide), h.s2.chg c (by decide) (by decide) (by decide), h.s3.chg c (by decide) (by decide) (by decide), fun x hx => (h.q x hx).chg c (by decide)⟩

theorem round (Q : Exit → Act → World → Prop) (a : Act) (L : Lw) (w w0 : World) (xs : List SD) (j : Nat) (d : SD) (X : Fx L w0 xs) (hj : xs[j]? = some d) (h38 : a.tmps[38]? = some (.int .i64 (j : Nat))) (H : St L w0 xs j a w)
    (k : ∀ e a' w', (e = .normal ∨ e = .exit 6) → St L w0 xs (j + 1) a' w' → a'.tmps[38]? = some (.int .i64 (j : Nat)) → Q e a' w') : b6.wp Yba.prog Q a w := by
  obtain ⟨F, ρ, g, ix, v34, v35, v36, v37, h34, h35, h36, h37, Rp, M, G⟩ := H
  have I := X.inp.below M.i0.b
  obtain ⟨bx, ox, hps, hin⟩ := I.at hj
  have dr := X.inp.r d (List.mem_of_getElem? hj)
  have jl := (List.getElem?_eq_some_iff.1 hj).1
  have h300 := X.l300
  have hn1 := X.n1
  have hn2 := X.n2
  have e0 : b6 = .seq (nth 0 b6) (.seq (nth 1 b6) (.seq (nth 2 b6) (.seq (nth 3 b6) (.seq (nth 4 b6) (.seq (nth 5 b6) (.seq (nth 6 b6) (.seq (nth 7 b6) (.seq (nth 8 b6) (nB 9 b6))))))))) := rfl
  rw [e0]
  refine wp_seq (p44 _ a L w j bx ox d F h38 (by rw [X.ln]; exact jl) hps (hin j d hj) fun a1 F1 S1 q39 => ?_)
  have b1 : Below w.heap.size w (w.alloc (.cells d.L.toArray 109)) := (Below.refl _ w).alloc (Nat.le_refl _) _
  have hb1 : (w.alloc (.cells d.L.toArray 109)).heap[w.heap.size]? = some (.cells d.L.toArray 109 (0, 0)) := heap_alloc_new w _
  have z1 : w.heap.size < (w.alloc (.cells d.L.toArray 109)).heap.size := (Array.getElem?_eq_some_iff.1 hb1).1
  have M1 := M.chg (Chg.of_below (R := fun _ => False) b1 35) (fun q => q) (fun _ _ _ q => q)
  generalize w.alloc (.cells d.L.toArray 109) = w1 at *
  refine wp_seq (p45 _ a1 L w1 w.heap.size d F1 dr ⟨hn1, hn2⟩ q39 (Bk.range (ρ := fun _ => 0) (r := 0) ⟨hb1, rfl⟩) fun a2 F2 S2 q40 => ?_)
  refine wp_seq (p46 _ a2 L w1 w.heap.size d F2 ((S2 39 (by decide)).trans q39) (Bk.range (ρ := fun _ => 0) (r := 0) ⟨hb1, rfl⟩) M1.bd.range X.bl fun a3 F3 S3 q41 => ?_)
  have b2 : Below w1.heap.size w1 (w1.alloc (.cells (qcL ((d.sg % 5 : Nat) : Int) L.ep L.cf.vw L.bid (.slice d.p d.m d.c)).toArray 112)) := (Below.refl _ w1).alloc (Nat.le_refl _) _
  have hm2 : (w1.alloc (.cells (qcL ((d.sg % 5 : Nat) : Int) L.ep L.cf.vw L.bid (.slice d.p d.m d.c)).toArray 112)).heap[w1.heap.size]? = some (.cells (qcL ((d.sg % 5 : Nat) : Int) L.ep L.cf.vw L.bid (.slice d.p d.m d.c)).toArray 112 (0, 0)) := heap_alloc_new w1 _
  generalize w1.alloc (.cells (qcL ((d.sg % 5 : Nat) : Int) L.ep L.cf.vw L.bid (.slice d.p d.m d.c)).toArray 112) = w2 at *
  have hb2 : w2.heap[w.heap.size]? = some (.cells d.L.toArray 109 (0, 0)) := (b2.block _ z1).trans hb1
  refine wp_seq (p47 _ a3 L w2 F3 fun a4 F4 S4 q42 => ?_)
  refine wp_seq (p48 _ a4 L w2 w.heap.size w1.heap.size d _ _ F4 ((S4 39 (by decide)).trans ((S3 39 (by decide)).trans ((S2 39 (by decide)).trans q39))) ((S4 41 (by decide)).trans q41) q42 hb2 hm2 (Nat.ne_of_lt z1) X.bl X.bt X.tg fun a5 w3 mt e v bm F5 S5 p42 hm3 hb3 hbm ht hf hB => ?_)
  have b3 : Below w.heap.size w w3 := (b1.trans (b2.mono (Nat.le_of_lt z1))).trans (hB _ (Nat.le_of_lt z1))
  have c3 : Chg ρ (rx ρ w 35) (fun _ => False) w w3 := Chg.of_below b3 35
  have Bb3 : Bk (rx ρ w 35) 35 w3 w.heap.size d.L.toArray 109 := ⟨hb3, rx_new (Nat.le_refl _)⟩
  have Bm3 : Bk (rx ρ w 35) 35 w3 w1.heap.size (qcL ((d.sg % 5 : Nat) : Int) e v bm (.slice d.p d.m d.c)).toArray 112 := ⟨hm3, rx_new (Nat.le_of_lt z1)⟩
  have R3 := Rp.chg c3 (fun _ _ _ q => q)
  have M3 := M.chg c3 (fun q => q) (fun _ _ _ q => q)
  obtain ⟨R4, c4, u4, f4⟩ := R3.ans d.ok
  have M4 := M3.chg c4 (by decide) (fun r _ _ => by omega)
  have Bb4 := Bb3.chg c4 (by decide)
  have Bm4 := Bm3.chg c4 (by decide)
  have T5 : Same [34, 35, 36, 37, 38] a a5 := S1.trans ((S2.sub (by decide)).trans ((S3.sub (by decide)).trans ((S4.sub (by decide)).trans (S5.sub (by decide)))))
  have t39 : a5.tmps[39]? = some (.pointer (some ⟨w.heap.size, 0, none⟩)) := (S5 39 (by decide)).trans ((S4 39 (by decide)).trans ((S3 39 (by decide)).trans ((S2 39 (by decide)).trans q39)))
  have t40 : a5.tmps[40]? = some (.int .i64 ((d.fr % L.cf.n : Nat) : Int)) := (S5 40 (by decide)).trans ((S4 40 (by decide)).trans ((S3 40 (by decide)).trans q40))
  have t41 : a5.tmps[41]? = some (.pointer (some ⟨w1.heap.size, 0, none⟩)) := (S5 41 (by decide)).trans ((S4 41 (by decide)).trans q41)
  generalize rx ρ w 35 = ρ3 at *
  clear M1 b1 b2 b3 hB hb1 hb2 hm2 S1 S2 S3 S4 S5
  refine wp_seq (p58 _ a5 L w3 w.heap.size d F5 t39 Bb3.range _ u4 f4 fun a6 F6 S6 => ?_)
  generalize w3.setCell ⟨L.cf.kb, 1, none⟩ (.bool d.ok) = w4 at *
  obtain ⟨hV, hsg⟩ := vote_at Bm4.h hbm
  have hfr : d.fr % L.cf.n < L.cf.n := Nat.mod_lt _ hn1
  by_cases hN : L.vot = false ∨ mt = false ∨ d.sg % 5 < 1 ∨ 3 < d.sg % 5
  · have hno : L.cf.pb = none ∨ (!L.cf.lv && decide (L.cf.wi ≤ L.cf.vw)) = false ∨ e ≠ L.ep ∨ v ≠ L.cf.vw ∨ bm ≠ L.bid ∨ ((d.sg % 5 : Nat) : Int) < 1 ∨ 3 < ((d.sg % 5 : Nat) : Int) := by
      rcases hN with h | h | h | h
      · unfold Lw.vot at h
        rcases Bool.and_eq_false_iff.1 h with h | h
        · left
          cases hp : L.cf.pb with
          | none => rfl
          | some x => rw [hp] at h; cases h
        · exact .inr (.inl h)
      · rcases hf h with h | h | h
        · exact .inr (.inr (.inl h))
        · exact .inr (.inr (.inr (.inl h)))
        · exact .inr (.inr (.inr (.inr (.inl h))))
      · exact .inr (.inr (.inr (.inr (.inr (.inl (by omega))))))
      · exact .inr (.inr (.inr (.inr (.inr (.inr (by omega))))))
    refine wp_seq (p59 _ a6 L w4 w1.heap.size (d.fr % L.cf.n) (fun w' => ∃ ρ', Rep ρ' L.cf L.ep L.bid { g with ans := d.ok } w' ∧ Chg ρ3 ρ' (fun r => 1 ≤ r ∧ r ≤ 17) w4 w') F6 ((S6 40 (by decide)).trans t40) ((S6 41 (by decide)).trans t41) (onVote_skip ρ3 L.cf L.ep L.bid bm _ _ _ _ e v w4 R4 M4.pb hV hbm X.bl hno) fun a7 w5 hR F7 S7 => ?_)
    obtain ⟨ρ5, R5, c5⟩ := hR
    have M5 := M4.chg c5 (by omega) (fun r _ _ => by omega)
    have Bm5 := Bm4.chg c5 (by omega)
    have S67 := S6.trans S7
    refine wp_seq (p60n _ a7 L w5 w1.heap.size (d.sg % 5) mt ((S67 41 (by decide)).trans t41) ((S67 42 (by decide)).trans p42) (Bm5.cell rfl) hN F7 fun a8 F8 S8 => ?_)
    have T8 : Same [34, 35, 36, 37, 38] a a8 := T5.trans ((S67.sub (by decide)).trans (S8.sub (by decide)))
    exact k _ _ _ (.inr rfl) ⟨F8, ρ5, _, ix, v34, v35, v36, v37, (T8 34 (by decide)).trans h34, (T8 35 (by decide)).trans h35, (T8 36 (by decide)).trans h36, (T8 37 (by decide)).trans h37, R5, M5.ans d.ok, G.next d.ok⟩ ((T8 38 (by decide)).trans h38)
  · have hv : L.vot = true := by cases hh : L.vot; exact absurd (.inl hh) hN; rfl
    have hmt : mt = true := by cases hh : mt; exact absurd (.inr (.inl hh)) hN; rfl
    have h1 : 1 ≤ d.sg % 5 := by apply Nat.le_of_not_lt; intro h; exact hN (.inr (.inr (.inl h)))
    have h3 : d.sg % 5 ≤ 3 := by apply Nat.le_of_not_lt; intro h; exact hN (.inr (.inr (.inr h)))
    subst hmt
    obtain ⟨rfl, rfl, rfl⟩ := ht rfl
    unfold Lw.vot at hv
    obtain ⟨hp1, hp2⟩ := Bool.and_eq_true_iff.1 hv
    have hpn : L.cf.pb ≠ none := by intro h; rw [h] at hp1; cases hp1
    have G1 := G.ans d.ok
    have hfl := G.fl
    have hct := G.ct _ h1 h3
    refine wp_seq (p59 _ a6 L w4 w1.heap.size (d.fr % L.cf.n) (fun w' => ∃ ρ' g', Step L.cf (d.fr % L.cf.n) (d.sg % 5) (stL ((d.sg % 5 : Nat) : Int) L.ep L.cf.vw L.bid) (.slice d.p d.m d.c) { g with ans := d.ok } g' ∧ Rep ρ' L.cf L.ep L.bid g' w' ∧ Chg ρ3 ρ' (fun r => 1 ≤ r ∧ r ≤ 17) w4 w') F6 ((S6 40 (by decide)).trans t40) ((S6 41 (by decide)).trans t41)
      (onVote_match L.cf ρ3 L.ep L.bid _ _ _ _ d.p d.m d.c w4 R4 M4.pb hpn hp2 hV X.bl h1 h3 hsg Bm4.r (by show g.frm.length ≤ 900; omega) hfr (by show g.cnt _ ≤ 500; omega) (by omega) X.fn (G1.sg _ h1 h3) (by have := G1.qs3; omega) G1.qs G1.qc) fun a7 w5 hR F7 S7 => ?_)
    obtain ⟨ρ5, g', hst, R5, c5⟩ := hR
    have M5 := M4.chg c5 (by omega) (fun r _ _ => by omega)
    have Bm5 := Bm4.chg c5 (by omega)
    have Bb5 := Bb4.chg c5 (by omega)
    have S67 := S6.trans S7
    refine wp_seq (p60y _ a7 L w5 w1.heap.size (d.sg % 5) ((S67 41 (by decide)).trans t41) ((S67 42 (by decide)).trans p42) (Bm5.cell rfl) hv h1 h3 F7 fun a8 F8 S8 => ?_)
    refine wp_seq (p61 _ a8 L w5 w1.heap.size (d.sg % 5) ((S8 41 (by decide)).trans ((S67 41 (by decide)).trans t41)) (Bm5.cell rfl) F8 fun a9 F9 S9 q43 => ?_)
    have S69 := S67.trans (S8.trans S9)
    have T9 : Same [34, 35, 36, 37, 38] a a9 := T5.trans (S69.sub (by decide))
    exact tail62 Q a9 L w5 w0 xs j d ρ5 _ g' ix v34 v35 v36 v37 _ _ w.heap.size X hj F9 ((T9 34 (by decide)).trans h34) ((T9 35 (by decide)).trans h35) ((T9 36 (by decide)).trans h36) ((T9 37 (by decide)).trans h37) ((T9 38 (by decide)).trans h38) ((S69 39 (by decide)).trans t39) ((S69 40 (by decide)).trans t40) q43 Bb5 hfr h1 h3 rfl hst R5 (M5.ans d.ok) G1 k

/-- the main loop -/
theorem mainLoop (Q : Exit → Act → World → Prop) (a : Act) (L : Lw) (w w0 : World) (xs : List SD) (X : Fx L w0 xs) (H : St L w0 xs 0 a w) (k : ∀ a' w', St L w0 xs xs.length a' w' → Q .normal a' w') : (nth 27 c6).wp Yba.prog Q a w := by
  have e : nth 27 c6 = .seq (cA (nth 27 c6)) (.block 5 (.loop lp)) := rfl
  have e2 : lp = .seq (cA lp) (.seq (.block 6 b6) (cB (cB lp))) := rfl
  rw [e]
  have keepSt : ∀ {j : Nat} {a a' : Act} {w : World}, St L w0 xs j a w → Fr a' L → Same [34, 35, 36, 37] a a' → St L w0 xs j a' w := fun {j a a' w} h F' S => by
    obtain ⟨F, ρ, g, ix, v34, v35, v36, v37, h34, h35, h36, h37, r⟩ := h
    exact ⟨F', ρ, g, ix, v34, v35, v36, v37, (S 34 (by decide)).trans h34, (S 35 (by decide)).trans h35, (S 36 (by decide)).trans h36, (S 37 (by decide)).trans h37, r⟩
  have h300 := X.l300
  refine wp_seq (p41 _ a L w H.1 fun a1 F1 S1 h38 => ?_)
  refine wp_block (wp_loop (fun a' w' => ∃ j : Nat, j ≤ xs.length ∧ a'.tmps[38]? = some (.int .i64 ((j : Nat) : Int)) ∧ St L w0 xs j a' w') (fun a' _ => xs.length - (intOf (a'.tmps[38]?.getD .nilIface)).toNat) ⟨0, Nat.zero_le _, h38, keepSt H F1 S1⟩ ?_)
  rintro a2 w2 ⟨j, hj, q38, H2⟩
  rw [e2]
  by_cases hlt : j < xs.length
  · refine wp_seq (p42y _ a2 L w2 j q38 (by rw [X.ln]; exact hlt) H2.1 fun a3 F3 S3 => ?_)
    obtain ⟨d, hd⟩ : ∃ d, xs[j]? = some d := ⟨_, List.getElem?_eq_getElem hlt⟩
    refine wp_seq (wp_block (round _ a3 L w2 w0 xs j d X hd ((S3 38 (by decide)).trans q38) (keepSt H2 F3 (S3.sub (by decide))) fun e a4 w4 he H4 p38 => ?_))
    have fin : (cB (cB lp)).wp Yba.prog (Exit.then (fun a' w' => (∃ j : Nat, j ≤ xs.length ∧ a'.tmps[38]? = some (.int .i64 ((j : Nat) : Int)) ∧ St L w0 xs j a' w') ∧ xs.length - (intOf (a'.tmps[38]?.getD .nilIface)).toNat < xs.length - (intOf (a2.tmps[38]?.getD .nilIface)).toNat) (Exit.inBlock 5 Q)) a4 w4 := by
      refine p43 _ a4 L w4 j p38 (by omega) H4.1 fun a5 F5 S5 r38 => ?_
      refine ⟨⟨j + 1, hlt, r38, keepSt H4 F5 S5⟩, ?_⟩
      rw [r38, q38]
      simp [intOf]
      omega
    rcases he with rfl | rfl
    · exact fin
    · simp only [Exit.inBlock, if_true]
      exact fin
  · refine wp_seq (p42n _ a2 L w2 j q38 (by rw [X.ln]; exact hlt) H2.1 fun a3 F3 S3 => ?_)
    have ej : j = xs.length := by omega
    rw [ej] at H2
    show Exit.inBlock 5 Q (.exit 5) a3 w2
    simp only [Exit.inBlock, if_true]
    exact k a3 w2 (keepSt H2 F3 (S3.sub (by decide)))
end Go.Proofs.Ybulkcsck.Ga
