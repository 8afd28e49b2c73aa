/-
  OWN TEXT. LawS4690CGather: the checks at the end, in one contract.
-/
import Derived.Test.YbulkcsckGbK
set_option linter.unusedVariables false
set_option linter.unusedSectionVars false
namespace Go.Proofs.Ybulkcsck.Ga
open Go.RowKit

theorem flat2 {α : Type} (f h : α → Value) : ∀ (l : List α) (i : Nat) (x : α), l[i]? = some x → (l.flatMap fun y => [f y, h y])[i * 2]? = some (f x) ∧ (l.flatMap fun y => [f y, h y])[i * 2 + 1]? = some (h x)
  | [], _, _, h => by simp at h
  | y :: l, 0, x, hx => by simp at hx; subst hx; simp
  | y :: l, i + 1, x, hx => by
    have := flat2 f h l i x (by simpa using hx)
    rw [show (i + 1) * 2 = i * 2 + 1 + 1 by omega]
    simpa using this
theorem drewN_below (w : World) (n : Nat) (B : Nat) : Below B w (w.drewN n) := ⟨rfl, rfl, rfl, Nat.le_refl _, fun _ _ => rfl⟩

/-- the state at the end -/
structure En (L : Lw) (w0 : World) (xs : List SD) (g : Gh) (v34 v35 v36 v37 : Value) (a : Act) (w : World) : Prop where
  F : Fr a L
  h34 : a.tmps[34]? = some v34
  h35 : a.tmps[35]? = some v35
  h36 : a.tmps[36]? = some v36
  h37 : a.tmps[37]? = some v37
  m : ∃ ρ ix, Rep ρ L.cf L.ep L.bid g w ∧ LM ρ L w0 g ix v34 v35 v36 v37 w ∧ GP L.cf.n (L.cf.n - L.cf.f) xs xs.length g ix
section
variable {L : Lw} {w0 w w' : World} {xs : List SD} {g : Gh} {v34 v35 v36 v37 : Value} {a a' : Act}
theorem En.go (h : En L w0 xs g v34 v35 v36 v37 a w) (F' : Fr a' L) (S : Same [34, 35, 36, 37] a a') (hb : Below w.heap.size w w') : En L w0 xs g v34 v35 v36 v37 a' w' := by
  obtain ⟨ρ, ix, R, M, G⟩ := h.m
  have c : Chg ρ (rx ρ w 19) (fun _ => False) w w' := Chg.of_below hb 19
  exact ⟨F', (S 34 (by decide)).trans h.h34, (S 35 (by decide)).trans h.h35, (S 36 (by decide)).trans h.h36, (S 37 (by decide)).trans h.h37, _, ix, R.chg c (fun _ _ _ q => q), M.chg c (fun q => q) (fun _ _ _ q => q), G⟩
theorem En.act (h : En L w0 xs g v34 v35 v36 v37 a w) (F' : Fr a' L) (S : Same [34, 35, 36, 37] a a') : En L w0 xs g v34 v35 v36 v37 a' w := h.go F' S (Below.refl _ _)
end

theorem conv_rw {ρ : Nat → Nat} {r : Nat} {w : World} {v : Value} {l : List Int} (h : Rw ρ r 5 1 w v 71 (u8s l)) (hl : l.length = 71) : ∃ p c, v = .slice p 71 c ∧ ∀ n, (convert 37 9 v).run Yba.prog (w.drewN n) = .ok (.string (strOfNums l)) (w.drewN n) := by
  obtain ⟨u, hu⟩ : ∃ u, (u8s l)[0]? = some u := ⟨_, List.getElem?_eq_getElem (by simp [u8s, hl])⟩
  obtain ⟨g, cap, rfl, _, _⟩ := h.cell hu
  refine ⟨_, _, rfl, fun n => conv9 hl (fun j u hj => ?_)⟩
  obtain ⟨g', cap', e, _, hc⟩ := h.cell hj
  cases e
  exact hc

section
variable (Q : Exit → Act → World → Prop) (L : Lw) (w0 : World) (xs : List SD) (g : Gh) (v34 v35 v36 v37 : Value) (X : Fx L w0 xs)
include X

theorem fin28 (a : Act) (w : World) (H : En L w0 xs g v34 v35 v36 v37 a w) (k : ∀ a', En L w0 xs g v34 v35 v36 v37 a' w → Q .normal a' w) : (nth 28 c6).wp Yba.prog Q a w := by
  obtain ⟨ρ, ix, R, M, G⟩ := H.m
  obtain ⟨vf, vn, vs, ss, k1, k2, k3, k4, k5, k6⟩ := R.k
  obtain ⟨p, c, e⟩ := Rw.shape M.wf
  obtain ⟨pf, cf, ef⟩ := k2.shape
  refine e28 _ a L w p c g.frm.length pf cf (e ▸ H.h34) (ef ▸ k1.cell rfl) H.F fun a1 F1 S1 => k a1 (H.act F1 S1)

theorem fin29 (a : Act) (w : World) (H : En L w0 xs g v34 v35 v36 v37 a w) (k : ∀ a' w', En L w0 xs g v34 v35 v36 v37 a' w' → Q .normal a' w') : (nth 29 c6).wp Yba.prog Q a w := by
  have e : nth 29 c6 = .seq (cA (nth 29 c6)) (.block 10 (.loop L10)) := rfl
  have e2 : L10 = .seq (cA L10) (.seq (cA (cB L10)) (cB (cB L10))) := rfl
  rw [e]
  have hfl : g.frm.length ≤ 300 := by
    obtain ⟨ρ, ix, R, M, G⟩ := H.m
    have := G.fl
    have := X.l300
    omega
  refine wp_seq (e81 _ a L w H.F fun a1 F1 S1 q46 => ?_)
  refine wp_block (wp_loop (fun a' w' => ∃ i : Nat, i ≤ g.frm.length ∧ a'.tmps[46]? = some (.int .i64 ((i : Nat) : Int)) ∧ En L w0 xs g v34 v35 v36 v37 a' w') (fun a' _ => g.frm.length - (intOf (a'.tmps[46]?.getD .nilIface)).toNat) ⟨0, Nat.zero_le _, q46, H.act F1 S1⟩ ?_)
  rintro a2 w2 ⟨i, hi, p46, H2⟩
  rw [e2]
  obtain ⟨ρ, ix, R, M, G⟩ := H2.m
  obtain ⟨p4, c4, e34⟩ := Rw.shape M.wf
  by_cases hlt : i < g.frm.length
  · refine wp_seq (e82y _ a2 L w2 i g.frm.length p4 c4 p46 (e34 ▸ H2.h34) hlt H2.F fun a3 F3 S3 => ?_)
    have H3 := H2.act F3 (S3.sub (by decide))
    obtain ⟨vf, vn, vs, ss, k1, k2, k3, k4, k5, k6⟩ := R.k
    obtain ⟨ss', m1, m2⟩ := M.ws
    have sl := G.sl
    have hx : (i64s g.frm)[i]? = some (.int .i64 g.frm[i]) := by simp [i64s, hlt]
    have hl : g.stm[i]? = some (g.stm[i]'(by omega)) := List.getElem?_eq_getElem (by omega)
    obtain ⟨g1, c1, y1, _, x1⟩ := k2.cell hx
    obtain ⟨g2, c2, y2, _, x2⟩ := Rw.cell M.wf hx
    have h1 : (i64s (List.replicate g.frm.length 1))[i]? = some (.int .i64 1) := by simp [i64s, hlt]
    obtain ⟨g3, c3, y3, _, x3⟩ := k3.cell h1
    have l4 : ss.length = g.frm.length := by simpa using k4.1
    have l5 : ss'.length = g.stm.length := by simpa using m1.1
    have h4 : ss[i]? = some (ss[i]'(by omega)) := List.getElem?_eq_getElem (by omega)
    have h5 : ss'[i]? = some (ss'[i]'(by omega)) := List.getElem?_eq_getElem (by omega)
    obtain ⟨g4, c4', y4, _, x4⟩ := k4.cell h4
    obtain ⟨g5, c5, y5, _, x5⟩ := m1.cell h5
    obtain ⟨z1, z2⟩ := k5.2 i _ _ h4 hl
    obtain ⟨z3, z4⟩ := m2.2 i _ _ h5 hl
    obtain ⟨p, c, ep, hp⟩ := conv_rw z2 z1
    obtain ⟨p', c', ep', hp'⟩ := conv_rw z4 z1
    rw [ep] at x4 hp
    rw [ep'] at x5 hp'
    rw [sl] at y5
    subst y1 y3 y4
    refine wp_seq (e84 _ a3 L w2 i g.frm.length g.frm[i] g1 g2 g3 g4 g5 c1 c2 c3 c4' c5 p p' 71 c 71 c' ((S3 46 (by decide)).trans p46) (y2 ▸ H3.h34) (y5 ▸ H3.h35) hlt (k1.cell rfl) (k1.cell rfl) (k1.cell rfl) x1 x2 x3 x4 x5 (fun n => eq16 (w2.drewN n) p p' 71 c 71 c' _ (hp n) (hp' n)) F3 fun a4 n F4 S4 => ?_)
    have H4 := H3.go F4 (S4.sub (by decide)) (drewN_below w2 n _)
    refine e83 _ a4 L (w2.drewN n) i ((S4 46 (by decide)).trans ((S3 46 (by decide)).trans p46)) (by omega) F4 fun a5 F5 S5 r46 => ?_
    refine ⟨⟨i + 1, hlt, r46, H4.act F5 S5⟩, ?_⟩
    rw [r46, p46]
    simp [intOf]
    omega
  · refine wp_seq (e82n _ a2 L w2 i g.frm.length p4 c4 p46 (e34 ▸ H2.h34) hlt H2.F fun a3 F3 S3 => ?_)
    show Exit.inBlock 10 Q (.exit 10) a3 w2
    simp only [Exit.inBlock, if_true]
    exact k a3 w2 (H2.act F3 (S3.sub (by decide)))

theorem fin30 (a : Act) (w : World) (H : En L w0 xs g v34 v35 v36 v37 a w) (k : ∀ a' w', En L w0 xs g v34 v35 v36 v37 a' w' → Q .normal a' w') : (nth 30 c6).wp Yba.prog Q a w := by
  have e : nth 30 c6 = .seq (cA (nth 30 c6)) (.block 12 (.loop L12)) := rfl
  have e2 : L12 = .seq (cA L12) (.seq (cA (cB L12)) (cB (cB L12))) := rfl
  rw [e]
  refine wp_seq (e86 _ a L w H.F fun a1 F1 S1 q47 => ?_)
  refine wp_block (wp_loop (fun a' w' => ∃ s : Nat, 1 ≤ s ∧ s ≤ 4 ∧ a'.tmps[47]? = some (.int .i64 ((s : Nat) : Int)) ∧ En L w0 xs g v34 v35 v36 v37 a' w') (fun a' _ => 4 - (intOf (a'.tmps[47]?.getD .nilIface)).toNat) ⟨1, by decide, by decide, q47, H.act F1 S1⟩ ?_)
  rintro a2 w2 ⟨s, h1, h4, p47, H2⟩
  rw [e2]
  by_cases h3 : s ≤ 3
  · refine wp_seq (e87y _ a2 L w2 s p47 h3 H2.F fun a3 F3 S3 => ?_)
    have H3 := H2.act F3 (S3.sub (by decide))
    obtain ⟨ρ, ix, R, M, G⟩ := H2.m
    obtain ⟨C, inV, mV, snV, b1, b2, b3, b4, b5⟩ := R.r
    have kv : w2.cell? ⟨L.cf.rb, 97 + s, none⟩ = some (.pointer (some ⟨L.cf.vb s, 0, none⟩)) := by
      rcases (by omega : s = 1 ∨ s = 2 ∨ s = 3) with rfl | rfl | rfl
      · exact b1.cell b2.v1
      · exact b1.cell b2.v2
      · exact b1.cell b2.v3
    have S := R.ss h1 h3
    refine wp_seq (e89 _ a3 L w2 s (L.cf.vb s) (g.cnt s) ((S3 47 (by decide)).trans p47) h3 kv (S.v.cell rfl) (LC.at M.lc h1 h3) F3 fun a4 n F4 S4 => ?_)
    have H4 := H3.go F4 (S4.sub (by decide)) (drewN_below w2 n _)
    refine e88 _ a4 L (w2.drewN n) s ((S4 47 (by decide)).trans ((S3 47 (by decide)).trans p47)) (by omega) F4 fun a5 F5 S5 r47 => ?_
    refine ⟨⟨s + 1, by omega, by omega, r47, H4.act F5 S5⟩, ?_⟩
    rw [r47, p47]
    simp [intOf]
    omega
  · refine wp_seq (e87n _ a2 L w2 s p47 h3 H2.F fun a3 F3 S3 => ?_)
    show Exit.inBlock 12 Q (.exit 12) a3 w2
    simp only [Exit.inBlock, if_true]
    exact k a3 w2 (H2.act F3 (S3.sub (by decide)))

theorem fin31 (a : Act) (w : World) (H : En L w0 xs g v34 v35 v36 v37 a w) (k : ∀ a', En L w0 xs g v34 v35 v36 v37 a' w → Q .normal a' w) : (nth 31 c6).wp Yba.prog Q a w := by
  obtain ⟨ρ, ix, R, M, G⟩ := H.m
  obtain ⟨C, inV, mV, snV, b1, b2, b3, b4, b5⟩ := R.r
  obtain ⟨p, c, e⟩ := M.lq.s.shape
  obtain ⟨p1, c1, e1⟩ := b3.shape
  obtain ⟨p2, c2, e2⟩ := b4.shape
  have hm : ∃ mb es clk, (mV = .map none ∧ g.qs.length = 0) ∨ (mV = .map (some mb) ∧ w.heap[mb]? = some (.map es clk) ∧ es.size = g.qs.length) := by
    rcases b5 with ⟨h1, h2⟩ | ⟨mb, es, clk, h1, h2, h3, h4⟩
    · exact ⟨0, #[], 0, .inl ⟨h1, by simpa using congrArg List.length h2⟩⟩
    · exact ⟨mb, es, clk, .inr ⟨h1, h3, by simpa using congrArg List.length h4⟩⟩
  obtain ⟨mb, es, clk, hm⟩ := hm
  exact e91 _ a L w g.qs.length p p1 p2 c c1 c2 mb es clk mV (e ▸ H.h36) (e1 ▸ b1.cell b2.sn) (e2 ▸ b1.cell b2.inb) (b1.cell b2.m) hm H.F fun a1 F1 S1 => k a1 (H.act F1 S1)
end
end Go.Proofs.Ybulkcsck.Ga
