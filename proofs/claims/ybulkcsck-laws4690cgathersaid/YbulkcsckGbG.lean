/-
  OWN TEXT. LawS4690CGather: a round of the main loop, in one contract.
-/
import Derived.Test.YbulkcsckGbF
import Derived.Test.YbulkcsckGbC
set_option linter.unusedVariables false
namespace Go.Proofs.Ybulkcsck.Ga
open Go.RowKit

theorem Bk.range {ρ : Nat → Nat} {r b : Nat} {w : World} {l : List Value} {t : TypeId} (h : Bk ρ r w b l.toArray t) : w.rangeAt b 0 l := fun j u hj => by rw [Nat.zero_add]; exact h.cell (by simpa using hj)

/-- the input, where it lies -/
theorem Inp.at {w : World} {ps : Option Addr} {xs : List SD} (h : Inp w ps xs) {j : Nat} {d : SD} (hj : xs[j]? = some d) : ∃ b o, ps = some ⟨b, o, none⟩ ∧ ∀ (k : Nat) (d : SD), xs[k]? = some d → w.rangeAt b (o + k * 5) d.L := by
  rcases h.e with h | h
  · rw [h] at hj; simp at hj
  · exact h

/-- the quorum's list -/
theorem qu70 (Q : Exit → Act → World → Prop) (a : Act) (L : Lw) (w w0 : World) (xs : List SD) (j : Nat) (ρ : Nat → Nat) (g : Gh) (ix : Nat → List Nat) (v34 v35 v36 v37 : Value) (s : Nat) (F : Fr a L) (h36 : a.tmps[36]? = some v36) (h37 : a.tmps[37]? = some v37) (h43 : a.tmps[43]? = some (.int .i64 (s : Nat))) (h1 : 1 ≤ s) (h3 : s ≤ 3)
    (X : Fx L w0 xs) (M : LM ρ L w0 g ix v34 v35 v36 v37 w) (G : GP L.cf.n (L.cf.n - L.cf.f) xs j g ix) (q : Ga.Q) (hq : q.st = s) (hc : q.cells = sigL 0 (g.has s) (g.sig s))
    (k : ∀ a' w' ρ' v36' v37', Fr a' L → Same [34, 35, 38, 39, 40, 41, 42, 43] a a' → a'.tmps[36]? = some v36' → a'.tmps[37]? = some v37' → LM ρ' L w0 { g with qs := g.qs ++ [q] } ix v34 v35 v36' v37' w' → Chg ρ ρ' (fun r => r = 33 ∨ r = 34) w w' → Q .normal a' w') : i70.wp Yba.prog Q a w := by
  have e : i70 = .seq (nth 0 i70) (.seq (nth 1 i70) (.seq (nth 2 i70) (nB 3 i70))) := rfl
  rw [e]
  have I := X.inp.below M.i0.b
  refine wp_seq (p71 _ a L w F fun a1 F1 S1 q44 => ?_)
  refine wp_seq (p72L _ a1 L w s h1 h3 ((S1 43 (by decide)).trans h43) q44 (g.has s) (g.sig s) (G.lh s h1 h3) (G.lg s h1 h3) (by have := X.n2; omega) (M.lh.at h1 h3) (M.li.at h1 h3) (fun i b hb => M.lh.bool h1 h3 hb) (fun i hi => ?_) F1 fun a2 w2 p m c F2 S2 g44 ho hb => ?_)
  · obtain ⟨kx, d, a1, a2, a3⟩ := G.hi s h1 h3 i hi
    obtain ⟨bx, ox, hps, hin⟩ := I.at a2
    exact ⟨kx, bx, ox, d.p, d.m, d.c, by rw [X.ln]; exact (List.getElem?_eq_some_iff.1 a2).1, M.li.idx h1 h3 a1, hps, hin kx d a2 4 _ rfl, a3⟩
  · have g2 : Chg ρ (rx ρ w 35) (fun _ => False) w w2 := Chg.of_below hb 35
    have hl : Rw (rx ρ w 35) 35 39 2 w2 (.slice p m c) m (sigL 0 (g.has s) (g.sig s)) := rw_own ho (Nat.le_refl _)
    have M2 := M.chg g2 (fun q => q) (fun _ _ _ q => q)
    have q3 := G.qs3
    obtain ⟨p3, c3, rfl⟩ := M2.lq.s.shape
    obtain ⟨ss, lg, lp⟩ := M2.lq.g
    obtain ⟨p4, c4, rfl⟩ := lg.shape
    obtain ⟨p5, c5, w5, ρ5, r5, f5, g5⟩ := M2.lq.s.app ti3 (by decide) (by decide) [.int .i64 (s : Nat)] rfl (fun u hu => by simp only [List.mem_singleton] at hu; subst hu; rfl) (by omega)
    have lg5 := lg.chg g5 (by decide)
    obtain ⟨p6, c6, w6, ρ6, r6, f6, g6⟩ := lg5.app ti26 (by decide) (by decide) [.slice p m c] rfl (fun u hu => by simp only [List.mem_singleton] at hu; subst hu; rfl) (by omega)
    refine wp_seq (p77 _ a2 L w2 p3 _ c3 s _ w5 ((S2 36 (by decide)).trans ((S1 36 (by decide)).trans h36)) ((S2 43 (by decide)).trans ((S1 43 (by decide)).trans h43)) r5 F2 fun a3 F3 S3 q36 => ?_)
    refine p78 _ a3 L w5 p4 p _ c4 m c _ w6 ((S3 37 (by decide)).trans ((S2 37 (by decide)).trans ((S1 37 (by decide)).trans h37))) ((S3 44 (by decide)).trans g44) r6 F3 fun a4 F4 S4 q37 => ?_
    have g56 : Chg (rx ρ w 35) ρ6 (fun r => r = 33 ∨ r = 34) w2 w6 := (g5.mono (fun _ h => .inl h)).trans (g6.mono (fun _ h => .inr h))
    have gg : Chg ρ ρ6 (fun r => r = 33 ∨ r = 34) w w6 := (g2.mono (fun _ h => h.elim)).trans g56
    refine k a4 w6 ρ6 _ _ F4 ((S1.sub (by decide)).trans ((S2.sub (by decide)).trans ((S3.sub (by decide)).trans (S4.sub (by decide))))) ((S4 36 (by decide)).trans q36) q37 ?_ gg
    refine ⟨M.i0.chg gg (by omega), M.bd.chg gg (by omega), M.pb.chg gg (by omega), Rw.chg M.wf gg (by omega), M.ws.chg gg (by omega) (by omega), M.lh.chg gg (by omega) (fun s _ _ => by omega), M.li.chg gg (by omega) (fun s _ _ => by omega), Bk.chg M.lc gg (by omega), ?_, ss ++ [.slice p m c], ?_, fun i v y hv hy => ?_⟩
    · have := f5.chg g6 (by decide)
      rw [← hq] at this
      simpa using this
    · simpa using f6
    · have hlen : ss.length = g.qs.length := by simpa using lg.1
      by_cases hi : i < ss.length
      · rw [List.getElem?_append_left hi] at hv
        have hy' : g.qs[i]? = some y := by
          have : (g.qs ++ [q])[i]? = some y := hy
          rw [List.getElem?_append_left (by omega)] at this
          exact this
        obtain ⟨m', h'⟩ := lp i v y hv hy'
        exact ⟨m', h'.chg g56 (by omega)⟩
      · have hi2 := (List.getElem?_eq_some_iff.1 hv).1
        simp at hi2
        have ei : i = ss.length := by omega
        rw [ei] at hv hy
        have hy' : (g.qs ++ [q])[ss.length]? = some y := hy
        rw [hlen] at hy'
        simp at hv hy'
        subst hv hy'
        rw [hc]
        exact ⟨m, hl.chg g56 (by omega)⟩

/-- the round behind the call, at a vote that matches -/
theorem tail62 (Q : Exit → Act → World → Prop) (a : Act) (L : Lw) (w w0 : World) (xs : List SD) (j : Nat) (d : SD) (ρ : Nat → Nat) (g g' : Gh) (ix : Nat → List Nat) (v34 v35 v36 v37 : Value) (fr s b : Nat) (X : Fx L w0 xs) (hj : xs[j]? = some d) (F : Fr a L) (h34 : a.tmps[34]? = some v34) (h35 : a.tmps[35]? = some v35) (h36 : a.tmps[36]? = some v36) (h37 : a.tmps[37]? = some v37) (h38 : a.tmps[38]? = some (.int .i64 (j : Nat)))
    (h39 : a.tmps[39]? = some (.pointer (some ⟨b, 0, none⟩))) (h40 : a.tmps[40]? = some (.int .i64 (fr : Nat))) (h43 : a.tmps[43]? = some (.int .i64 (s : Nat))) (hb : Bk ρ 35 w b d.L.toArray 109) (hfr : fr < L.cf.n) (h1 : 1 ≤ s) (h3 : s ≤ 3) (hans : g.ans = d.ok) (hst : Step L.cf fr s (stL s L.ep L.cf.vw L.bid) d.sv g g') (Rp : Rep ρ L.cf L.ep L.bid g' w) (M : LM ρ L w0 g ix v34 v35 v36 v37 w) (G : GP L.cf.n (L.cf.n - L.cf.f) xs j g ix)
    (k : ∀ e a' w', (e = .normal ∨ e = .exit 6) → St L w0 xs (j + 1) a' w' → a'.tmps[38]? = some (.int .i64 (j : Nat)) → Q e a' w') : (nB 9 b6).wp Yba.prog Q a w := by
  have e9 : nB 9 b6 = .seq (nth 9 b6) (.seq (nth 10 b6) (nB 11 b6)) := rfl
  rw [e9]
  have hj' := (List.getElem?_eq_some_iff.1 hj).1
  have h300 := X.l300
  have hfl := G.fl
  refine wp_seq (sg62 _ a L w w0 ρ g ix v34 v35 v36 v37 fr s b d F h34 h35 h39 h40 h43 hb M (by omega) G.sl X.bl fun a1 w1 ρ1 u34 u35 e he F1 S1 q34 q35 M1 c1 => ?_)
  have R1 := Rp.chg c1 (fun r _ _ => by omega)
  have t36 := (S1 36 (by decide)).trans h36
  have t37 := (S1 37 (by decide)).trans h37
  have t38 := (S1 38 (by decide)).trans h38
  have t40 := (S1 40 (by decide)).trans h40
  have t43 := (S1 43 (by decide)).trans h43
  have no : ∀ {P : Prop}, (decide ((fr : Int) = L.cf.id) || g.ans) = true → fr ≠ L.cf.id ∧ d.ok = false → P := by
    intro P h hh
    rw [hans, hh.2] at h
    simp at h
    omega
  cases hst with
  | refused h =>
    rcases he with ⟨rfl, hh⟩ | ⟨rfl, hh⟩
    · exfalso
      rw [hans] at h
      simp at h
      rcases hh with hh | hh
      · omega
      · rw [h.2] at hh; cases hh
    · exact k _ _ _ (.inr rfl) ⟨F1, ρ1, _, ix, u34, u35, v36, v37, q34, q35, t36, t37, R1, M1, G.sgn _⟩ t38
  | there h hh =>
    rcases he with ⟨rfl, he⟩ | ⟨rfl, he⟩
    · refine wp_seq (p66y _ a1 L w1 fr hfr t40 s h1 h3 t43 (M1.lh.at h1 h3) (M1.lh.bool h1 h3 (by rw [sgn_has']; exact hh)) F1 fun a2 F2 S2 => ?_)
      exact k _ _ _ (.inr rfl) ⟨F2, ρ1, _, ix, u34, u35, v36, v37, (S2 34 (by decide)).trans q34, (S2 35 (by decide)).trans q35, (S2 36 (by decide)).trans t36, (S2 37 (by decide)).trans t37, R1, M1, G.sgn _⟩ ((S2 38 (by decide)).trans t38)
    · exact no h he
  | added h hh hq =>
    rcases he with ⟨rfl, he⟩ | ⟨rfl, he⟩
    · refine wp_seq (p66n _ a1 L w1 fr hfr t40 s h1 h3 t43 (M1.lh.at h1 h3) (M1.lh.bool h1 h3 (by rw [sgn_has']; exact hh)) F1 fun a2 F2 S2 => ?_)
      refine ad67 _ a2 L w1 w0 ρ1 _ ix u34 u35 v36 v37 fr s j d.sv F2 ((S2 38 (by decide)).trans t38) ((S2 40 (by decide)).trans t40) ((S2 43 (by decide)).trans t43) h1 h3 hfr M1 (by rw [sgn_has']; exact hh) (G.li s h1 h3) (by rw [sgn_cnt']; have := G.ct s h1 h3; omega) fun a3 w3 F3 S3 M3 c3 => ?_
      have R3 := R1.chg c3 (fun r _ _ => by omega)
      have ec : (addG s fr d.sv (sgn (fr : Int) L.cf.id (stL s L.ep L.cf.vw L.bid) g)).cnt s = g.cnt s + 1 := by simp [addG, sgn_cnt']
      have cc := LC.at M3.lc h1 h3
      rw [ec] at cc
      have S23 := S2.trans S3
      refine p70n _ a3 L w3 s h1 h3 ((S23 43 (by decide)).trans t43) _ cc hq F3 fun a4 F4 S4 => ?_
      have S24 := S23.trans S4
      exact k _ _ _ (.inl rfl) ⟨F4, ρ1, _, _, u34, u35, v36, v37, (S24 34 (by decide)).trans q34, (S24 35 (by decide)).trans q35, (S24 36 (by decide)).trans t36, (S24 37 (by decide)).trans t37, R3, M3, G.add _ hj h1 h3 hfr hh⟩ ((S24 38 (by decide)).trans t38)
    · exact no h he
  | quorum h hh hq q e1 e2 =>
    rcases he with ⟨rfl, he⟩ | ⟨rfl, he⟩
    · refine wp_seq (p66n _ a1 L w1 fr hfr t40 s h1 h3 t43 (M1.lh.at h1 h3) (M1.lh.bool h1 h3 (by rw [sgn_has']; exact hh)) F1 fun a2 F2 S2 => ?_)
      refine ad67 _ a2 L w1 w0 ρ1 _ ix u34 u35 v36 v37 fr s j d.sv F2 ((S2 38 (by decide)).trans t38) ((S2 40 (by decide)).trans t40) ((S2 43 (by decide)).trans t43) h1 h3 hfr M1 (by rw [sgn_has']; exact hh) (G.li s h1 h3) (by rw [sgn_cnt']; have := G.ct s h1 h3; omega) fun a3 w3 F3 S3 M3 c3 => ?_
      have R3 := R1.chg c3 (fun r _ _ => by omega)
      have ec : (addG s fr d.sv (sgn (fr : Int) L.cf.id (stL s L.ep L.cf.vw L.bid) g)).cnt s = g.cnt s + 1 := by simp [addG, sgn_cnt']
      have cc := LC.at M3.lc h1 h3
      rw [ec] at cc
      have S23 := S2.trans S3
      refine p70y _ a3 L w3 s h1 h3 ((S23 43 (by decide)).trans t43) _ cc hq F3 fun a4 F4 S4 => ?_
      have S24 := S23.trans S4
      have hq' : g.cnt s + 1 = L.cf.n - L.cf.f := by have := eq_of_beq hq; omega
      refine qu70 _ a4 L w3 w0 xs (j + 1) ρ1 _ _ u34 u35 v36 v37 s F4 ((S24 36 (by decide)).trans t36) ((S24 37 (by decide)).trans t37) ((S24 43 (by decide)).trans t43) h1 h3 X M3 (G.add _ hj h1 h3 hfr hh) q e1 e2 fun a5 w5 ρ5 u36 u37 F5 S5 q36 q37 M5 c5 => ?_
      have S25 := (S24.sub (js := [34, 35, 38]) (by decide)).trans (S5.sub (by decide))
      exact k _ _ _ (.inl rfl) ⟨F5, ρ5, _, _, u34, u35, u36, u37, (S25 34 (by decide)).trans q34, (S25 35 (by decide)).trans q35, q36, q37, R3.chg c5 (fun r _ _ => by omega), M5, G.quo _ hj h1 h3 hfr hh hq' q e1 e2⟩ ((S25 38 (by decide)).trans t38)
    · exact no h he
end Go.Proofs.Ybulkcsck.Ga
