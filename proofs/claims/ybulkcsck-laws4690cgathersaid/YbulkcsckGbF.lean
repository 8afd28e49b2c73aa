/-
  OWN TEXT. LawS4690CGather: the law's memory in a round, behind the call.
-/
import Derived.Test.YbulkcsckGbE
import Derived.Test.YbulkcsckGbP
set_option linter.unusedVariables false
namespace Go.Proofs.Ybulkcsck.Ga
open Go.RowKit

/-- facts that stand in the whole run -/
structure Fx (L : Lw) (w0 : World) (xs : List SD) : Prop where
  inp : Inp w0 L.ps xs
  ln : L.ln = xs.length
  l300 : xs.length ≤ 300
  n1 : 0 < L.cf.n
  n2 : L.cf.n ≤ 100
  fn : L.cf.f ≤ L.cf.n
  bl : L.bid.length = 32
  bt : ∃ t, L.bid = L.tg :: t
  tg : 0 ≤ L.tg ∧ L.tg ≤ 255
/-- the run's state in front of step j -/
def St (L : Lw) (w0 : World) (xs : List SD) (j : Nat) (a : Act) (w : World) : Prop := Fr a L ∧ ∃ ρ g ix v34 v35 v36 v37, a.tmps[34]? = some v34 ∧ a.tmps[35]? = some v35 ∧ a.tmps[36]? = some v36 ∧ a.tmps[37]? = some v37 ∧ Rep ρ L.cf L.ep L.bid g w ∧ LM ρ L w0 g ix v34 v35 v36 v37 w ∧ GP L.cf.n (L.cf.n - L.cf.f) xs j g ix

section
variable {ρ ρ' : Nat → Nat} {L : Lw} {w w' w0 : World}
theorem LH.at {has : Nat → List Bool} (h : LH ρ L has w) {s : Nat} (h1 : 1 ≤ s) (h3 : s ≤ 3) : w.cell? ⟨L.hA, s, none⟩ = some (.slice (some ⟨L.lh s, 0, none⟩) L.cf.n L.cf.n) := by
  rcases (by omega : s = 1 ∨ s = 2 ∨ s = 3) with rfl | rfl | rfl <;> exact h.a.cell rfl
theorem LI.at {ix : Nat → List Nat} (h : LI ρ L ix w) {s : Nat} (h1 : 1 ≤ s) (h3 : s ≤ 3) : w.cell? ⟨L.iA, s, none⟩ = some (.slice (some ⟨L.li s, 0, none⟩) L.cf.n L.cf.n) := by
  rcases (by omega : s = 1 ∨ s = 2 ∨ s = 3) with rfl | rfl | rfl <;> exact h.a.cell rfl
theorem LC.at {cnt : Nat → Nat} (h : LC ρ L cnt w) {s : Nat} (h1 : 1 ≤ s) (h3 : s ≤ 3) : w.cell? ⟨L.cA, s, none⟩ = some (.int .i64 (cnt s : Nat)) := by
  rcases (by omega : s = 1 ∨ s = 2 ∨ s = 3) with rfl | rfl | rfl <;> exact Bk.cell h rfl
theorem LH.bool {has : Nat → List Bool} (h : LH ρ L has w) {s i : Nat} (h1 : 1 ≤ s) (h3 : s ≤ 3) {b : Bool} (hi : (has s)[i]? = some b) : w.cell? ⟨L.lh s, i, none⟩ = some (.bool b) := (h.r s h1 h3).cell (by simp [hi])
theorem LI.idx {ix : Nat → List Nat} (h : LI ρ L ix w) {s i k : Nat} (h1 : 1 ≤ s) (h3 : s ≤ 3) (hi : (ix s)[i]? = some k) : w.cell? ⟨L.li s, i, none⟩ = some (.int .i64 (k : Nat)) := (h.r s h1 h3).cell (by simp [hi])
theorem LH.set {has : Nat → List Bool} (h : LH ρ L has w) {s : Nat} (h1 : 1 ≤ s) (h3 : s ≤ 3) (i : Nat) : LH ρ L (fun t => if t = s then (has s).set i true else has t) (w.setCell ⟨L.lh s, i, none⟩ (.bool true)) ∧ Chg ρ ρ (fun r => r = 24 + s) w (w.setCell ⟨L.lh s, i, none⟩ (.bool true)) := by
  have c : Chg ρ ρ (fun r => r = 24 + s) w (w.setCell ⟨L.lh s, i, none⟩ (.bool true)) := Chg.setCell w _ i _ (h.r s h1 h3).r
  refine ⟨⟨h.a.chg c (by omega), fun t a b => ?_⟩, c⟩
  by_cases e : t = s
  · subst e
    have := (h.r t h1 h3).set i (.bool true)
    rw [List.setIfInBounds_toArray, ← List.map_set] at this
    simpa using this
  · simpa [e] using (h.r t a b).chg c (by omega)
theorem LI.set {ix : Nat → List Nat} (h : LI ρ L ix w) {s : Nat} (h1 : 1 ≤ s) (h3 : s ≤ 3) (i j : Nat) : LI ρ L (ixS ix s i j) (w.setCell ⟨L.li s, i, none⟩ (.int .i64 (j : Nat))) ∧ Chg ρ ρ (fun r => r = 27 + s) w (w.setCell ⟨L.li s, i, none⟩ (.int .i64 (j : Nat))) := by
  have c : Chg ρ ρ (fun r => r = 27 + s) w (w.setCell ⟨L.li s, i, none⟩ (.int .i64 (j : Nat))) := Chg.setCell w _ i _ (h.r s h1 h3).r
  refine ⟨⟨h.a.chg c (by omega), fun t a b => ?_⟩, c⟩
  unfold ixS
  by_cases e : t = s
  · subst e
    have := (h.r t h1 h3).set i (.int .i64 (j : Nat))
    rw [List.setIfInBounds_toArray, ← List.map_set (f := fun k : Nat => Value.int .i64 (k : Nat))] at this
    simpa using this
  · simpa [e] using (h.r t a b).chg c (by omega)
theorem LC.set {cnt : Nat → Nat} (h : LC ρ L cnt w) {s : Nat} (h1 : 1 ≤ s) (h3 : s ≤ 3) : LC ρ L (fun t => if t = s then cnt s + 1 else cnt t) (w.setCell ⟨L.cA, s, none⟩ (.int .i64 ((cnt s + 1 : Nat) : Int))) ∧ Chg ρ ρ (fun r => r = 24) w (w.setCell ⟨L.cA, s, none⟩ (.int .i64 ((cnt s + 1 : Nat) : Int))) := by
  refine ⟨?_, Chg.setCell w _ s _ (Bk.r h)⟩
  unfold LC
  have := Bk.set h s (.int .i64 ((cnt s + 1 : Nat) : Int))
  rcases (by omega : s = 1 ∨ s = 2 ∨ s = 3) with rfl | rfl | rfl <;> simpa using this
end

theorem stL_len (s e v : Int) (bid : List Int) (h : bid.length = 32) : (stL s e v bid).length = 71 := by simp [stL, nameL, be8, h]

/-- 'wantFrom' and 'wantStmt' -/
theorem sg62 (Q : Exit → Act → World → Prop) (a : Act) (L : Lw) (w w0 : World) (ρ : Nat → Nat) (g : Gh) (ix : Nat → List Nat) (v34 v35 v36 v37 : Value) (fr s b : Nat) (d : SD) (F : Fr a L) (h34 : a.tmps[34]? = some v34) (h35 : a.tmps[35]? = some v35) (h39 : a.tmps[39]? = some (.pointer (some ⟨b, 0, none⟩))) (h40 : a.tmps[40]? = some (.int .i64 (fr : Nat))) (h43 : a.tmps[43]? = some (.int .i64 (s : Nat)))
    (hb : Bk ρ 35 w b d.L.toArray 109) (M : LM ρ L w0 g ix v34 v35 v36 v37 w) (hl : g.frm.length ≤ 900) (hsl : g.stm.length = g.frm.length) (hbl : L.bid.length = 32)
    (k : ∀ a' w' ρ' v34' v35' e, ((e = .normal ∧ (fr = L.cf.id ∨ d.ok = true)) ∨ (e = .exit 6 ∧ fr ≠ L.cf.id ∧ d.ok = false)) → Fr a' L → Same [36, 37, 38, 39, 40, 41, 42, 43] a a' → a'.tmps[34]? = some v34' → a'.tmps[35]? = some v35' → LM ρ' L w0 (sgn fr L.cf.id (stL s L.ep L.cf.vw L.bid) g) ix v34' v35' v36 v37 w' → Chg ρ ρ' (fun r => r = 31 ∨ r = 32) w w' → Q e a' w') : (nth 9 b6).wp Yba.prog Q a w := by
  by_cases hid : fr = L.cf.id
  · refine p62a _ a L w fr h40 hid F fun a1 F1 S1 => ?_
    have e : sgn (fr : Int) L.cf.id (stL s L.ep L.cf.vw L.bid) g = g := by unfold sgn; rw [if_pos (by rw [hid])]
    exact k a1 w ρ v34 v35 .normal (.inl ⟨rfl, .inl hid⟩) F1 (S1.sub (by decide)) ((S1 34 (by decide)).trans h34) ((S1 35 (by decide)).trans h35) (by rw [e]; exact M) (Chg.refl _ _ _)
  · have e : sgn (fr : Int) L.cf.id (stL s L.ep L.cf.vw L.bid) g = { g with frm := g.frm ++ [(fr : Int)], stm := g.stm ++ [stL s L.ep L.cf.vw L.bid] } := by unfold sgn; rw [if_neg (by omega)]
    refine p62b _ a L w fr h40 hid F fun a1 F1 S1 => ?_
    obtain ⟨p, c, rfl⟩ := Rw.shape M.wf
    obtain ⟨p1, c1, w1, ρ1, r1, f1, g1⟩ := Rw.app ti3 (by decide) (by decide) M.wf [.int .i64 (fr : Int)] rfl (fun u hu => by simp only [List.mem_singleton] at hu; subst hu; rfl) (by omega)
    rw [i64s_snoc] at f1
    have bd1 := M.bd.chg g1 (by decide)
    obtain ⟨ss, ws1, st1⟩ := M.ws.chg g1 (by decide) (by decide)
    obtain ⟨ps, cs, rfl⟩ := ws1.shape
    have e0 : i62 = nB 0 i62 := rfl
    have e1 : i62 = .seq (nth 0 i62) (.seq (nth 1 i62) (nB 2 i62)) := rfl
    rw [e1]
    refine wp_seq (p63 _ a1 L w p _ c fr _ w1 ((S1 34 (by decide)).trans h34) ((S1 40 (by decide)).trans h40) r1 F1 fun a2 F2 S2 q34 => ?_)
    refine wp_seq (p64 _ a2 L w1 ps _ cs s ((S2 35 (by decide)).trans ((S1 35 (by decide)).trans h35)) ((S2 43 (by decide)).trans ((S1 43 (by decide)).trans h43)) (fun v' w' => ∃ ρ', WS ρ' w' v' (g.stm ++ [stL s L.ep L.cf.vw L.bid]) ∧ Chg ρ1 ρ' (fun r => r = 32) w1 w') (fun j u hj => by rw [Nat.zero_add]; exact bd1.cell (by simpa using hj)) hbl ?_ F2 fun a3 v' w' hR F3 S3 q35 => ?_)
    · refine (stmt15 s L.ep L.cf.vw L.bid hbl w1).mono ?_
      rintro x w2 ⟨v2, rfl, ho, hb2⟩
      obtain ⟨p2, c2, rfl⟩ := owns_shape ho
      have g2 : Chg ρ1 (rx ρ1 w1 35) (fun _ => False) w1 w2 := Chg.of_below hb2 35
      have h2 : Rw (rx ρ1 w1 35) 35 5 1 w2 (.slice p2 71 c2) 71 (u8s (stL s L.ep L.cf.vw L.bid)) := rw_own ho (Nat.le_refl _)
      obtain ⟨p3, c3, w3, ρ3, r3, f3, g3⟩ := (ws1.chg g2 (fun q => q)).app ti37 (by decide) (by decide) [.slice p2 71 c2] rfl (fun u hu => by simp only [List.mem_singleton] at hu; subst hu; rfl) (by omega)
      refine ⟨p2, c2, _, w3, rfl, r3, ρ3, ⟨ss ++ [.slice p2 71 c2], by simpa using f3, ((st1.chg g2 (fun q => q)).chg g3 (by decide)).snoc (stL_len _ _ _ _ hbl) (h2.chg g3 (by decide))⟩, (g2.mono (fun _ q => q.elim)).trans g3⟩
    · obtain ⟨ρ3, ws3, g3⟩ := hR
      have gg : Chg ρ ρ3 (fun r => r = 31 ∨ r = 32) w w' := (g1.mono (fun _ q => .inl q)).trans (g3.mono (fun _ q => .inr q))
      have M3 : LM ρ3 L w0 (sgn (fr : Int) L.cf.id (stL s L.ep L.cf.vw L.bid) g) ix (.slice p1 (g.frm.length + 1) c1) v' v36 v37 w' := by
        rw [e]
        refine ⟨M.i0.chg gg (by omega), M.bd.chg gg (by omega), M.pb.chg gg (by omega), ?_, ws3, M.lh.chg gg (by omega) (fun s _ _ => by omega), M.li.chg gg (by omega) (fun s _ _ => by omega), Bk.chg M.lc gg (by omega), M.lq.chg gg (by omega) (by omega) (by omega)⟩
        have := f1.chg g3 (by decide)
        unfold WF
        simpa using this
      have hb3 := hb.chg gg (by omega)
      have hr : w'.rangeAt b 0 d.L := fun j u hj => by rw [Nat.zero_add]; exact hb3.cell (by simpa using hj)
      have S12 : Same [36, 37, 38, 39, 40, 41, 42, 43] a a3 := (S1.sub (by decide)).trans ((S2.sub (by decide)).trans (S3.sub (by decide)))
      cases hok : d.ok
      · refine p65n _ a3 L w' b d ((S12 39 (by decide)).trans h39) hr hok F3 fun a4 F4 S4 => ?_
        exact k a4 w' ρ3 _ _ (.exit 6) (.inr ⟨rfl, hid, hok⟩) F4 (S12.trans (S4.sub (by decide))) ((S4 34 (by decide)).trans ((S3 34 (by decide)).trans q34)) ((S4 35 (by decide)).trans q35) M3 gg
      · refine p65y _ a3 L w' b d ((S12 39 (by decide)).trans h39) hr hok F3 fun a4 F4 S4 => ?_
        exact k a4 w' ρ3 _ _ .normal (.inl ⟨rfl, .inr hok⟩) F4 (S12.trans (S4.sub (by decide))) ((S4 34 (by decide)).trans ((S3 34 (by decide)).trans q34)) ((S4 35 (by decide)).trans q35) M3 gg

/-- the stores of a vote that is new -/
theorem ad67 (Q : Exit → Act → World → Prop) (a : Act) (L : Lw) (w w0 : World) (ρ : Nat → Nat) (g : Gh) (ix : Nat → List Nat) (v34 v35 v36 v37 : Value) (fr s j : Nat) (sv : Value) (F : Fr a L) (h38 : a.tmps[38]? = some (.int .i64 (j : Nat))) (h40 : a.tmps[40]? = some (.int .i64 (fr : Nat))) (h43 : a.tmps[43]? = some (.int .i64 (s : Nat))) (h1 : 1 ≤ s) (h3 : s ≤ 3) (hfr : fr < L.cf.n)
    (M : LM ρ L w0 g ix v34 v35 v36 v37 w) (hb : (g.has s)[fr]? = some false) (hi : (ix s).length = L.cf.n) (hc : g.cnt s ≤ 1000)
    (k : ∀ a' w', Fr a' L → Same [34, 35, 36, 37, 38, 39, 40, 41, 42, 43] a a' → LM ρ L w0 (addG s fr sv g) (ixS ix s fr j) v34 v35 v36 v37 w' → Chg ρ ρ (fun r => 24 ≤ r ∧ r ≤ 30) w w' → (nB 14 b6).wp Yba.prog Q a' w') : (nB 11 b6).wp Yba.prog Q a w := by
  have e : nB 11 b6 = .seq (nth 11 b6) (.seq (nth 12 b6) (.seq (nth 13 b6) (nB 14 b6))) := rfl
  rw [e]
  refine wp_seq (p67 _ a L w fr hfr h40 s h1 h3 h43 (M.lh.at h1 h3) _ (M.lh.bool h1 h3 hb) ((M.lh.r s h1 h3).fz fr) F fun a1 F1 S1 => ?_)
  obtain ⟨H1, c1⟩ := M.lh.set h1 h3 fr
  have I1 := M.li.chg c1 (by omega) (fun t _ _ => by omega)
  obtain ⟨kx, hkx⟩ : ∃ kx, (ix s)[fr]? = some kx := ⟨_, List.getElem?_eq_getElem (by omega)⟩
  refine wp_seq (p68 _ a1 L _ fr j hfr ((S1 40 (by decide)).trans h40) ((S1 38 (by decide)).trans h38) s h1 h3 ((S1 43 (by decide)).trans h43) (I1.at h1 h3) _ (I1.idx h1 h3 hkx) ((I1.r s h1 h3).fz fr) F1 fun a2 F2 S2 => ?_)
  obtain ⟨I2, c2⟩ := I1.set h1 h3 fr j
  have C2 := (Bk.chg (Bk.chg M.lc c1 (by omega)) c2 (by omega) : LC ρ L g.cnt _)
  refine wp_seq (p69 _ a2 L _ s h1 h3 ((S2 43 (by decide)).trans ((S1 43 (by decide)).trans h43)) (g.cnt s) hc (LC.at C2 h1 h3) (Bk.fz C2 s) F2 fun a3 F3 S3 => ?_)
  obtain ⟨C3, c3⟩ := LC.set C2 h1 h3
  have gg := ((c1.mono (R' := fun r => 24 ≤ r ∧ r ≤ 30) (fun r h => by omega)).trans (c2.mono (fun r h => by omega))).trans (c3.mono (fun r h => by omega))
  refine k a3 _ F3 (S1.trans (S2.trans S3)) ?_ gg
  exact ⟨M.i0.chg gg (by omega), M.bd.chg gg (by omega), M.pb.chg gg (by omega), Rw.chg M.wf gg (by omega), M.ws.chg gg (by omega) (by omega), (H1.chg c2 (by omega) (fun t _ _ => by omega)).chg c3 (by omega) (fun t _ _ => by omega), I2.chg c3 (by omega) (fun t _ _ => by omega), C3, M.lq.chg gg (by omega) (by omega) (by omega)⟩
end Go.Proofs.Ybulkcsck.Ga
