/-
  OWN TEXT. LawS4690CGather: the checks at the end: the loop over the certificates; the whole end.
-/
import Derived.Test.YbulkcsckGbL
set_option linter.unusedVariables false
set_option linter.unusedSectionVars false
namespace Go.Proofs.Ybulkcsck.Ga
open Go.RowKit

theorem heap_cell {w : World} {b i : Nat} {c : Array Value} {t : TypeId} {v : Value} (h : w.heap[b]? = some (.cells c t (0, 0))) (hv : c[i]? = some v) : w.cell? ⟨b, i, none⟩ = some v := by simp [World.cell?, h, hv]
theorem below_heap {B b : Nat} {w w' : World} {o : Obj} (h : Below B w w') (hb : b < B) (hw : w.heap[b]? = some o) : w'.heap[b]? = some o := (h.block b hb).trans hw
theorem Rw.cap {ρ : Nat → Nat} {r : Nat} {e : TypeId} {sz : Nat} {w : World} {v : Value} {n : Nat} {xs : List Value} (h : Rw ρ r e sz w v n xs) : n ≤ maxLen := by
  rcases h.2 with ⟨_, h0⟩ | ⟨g1, cap, cur, h1, h2, h3, h4, h5, h6⟩
  · omega
  · omega

section
variable (Q : Exit → Act → World → Prop) (L : Lw) (w0 : World) (xs : List SD) (g : Gh) (v34 v35 v36 v37 : Value) (X : Fx L w0 xs)
include X

/-- the loop over the signatures of one certificate -/
theorem fin107 (a : Act) (w : World) (H : En L w0 xs g v34 v35 v36 v37 a w) (i qb : Nat) (q : Ga.Q) (hq : g.qs[i]? = some q) (h48 : a.tmps[48]? = some (.int .i64 (i : Nat))) (h52 : a.tmps[52]? = some (.pointer (some ⟨qb, 0, none⟩))) (hqb : w.heap[qb]? = some (.cells (qcL q.st L.ep L.cf.vw L.bid q.sv).toArray 32 (0, 0)))
    (k : ∀ a' w', En L w0 xs g v34 v35 v36 v37 a' w' → Same [34, 35, 36, 37, 48, 50, 52] a a' → Below w.heap.size w w' → Q .normal a' w') : (nth 7 B15).wp Yba.prog Q a w := by
  have e : nth 7 B15 = .seq (cA (nth 7 B15)) (.block 16 (.loop L16)) := rfl
  have e2 : L16 = .seq (cA L16) (.seq (cA (cB L16)) (cB (cB L16))) := rfl
  rw [e]
  have hbl := X.bl
  have hlt := (Array.getElem?_eq_some_iff.1 hqb).1
  have hl8 : (u8s L.bid).length = 32 := by simp [u8s, hbl]
  have hmem := List.mem_of_getElem? hq
  have hi := (List.getElem?_eq_some_iff.1 hq).1
  obtain ⟨p, c, esv⟩ : ∃ p c, q.sv = .slice p q.m c := by
    obtain ⟨ρ, ix, R, M, G⟩ := H.m
    exact (R.q q hmem).r.shape
  obtain ⟨ys, ecs, hys⟩ : SC xs q.cells := by
    obtain ⟨ρ, ix, R, M, G⟩ := H.m
    exact G.cs q hmem
  have hml : q.cells.length = q.m * 2 := by
    obtain ⟨ρ, ix, R, M, G⟩ := H.m
    exact (R.q q hmem).r.1
  have hmle : q.m ≤ 9223372036854775807 := by
    obtain ⟨ρ, ix, R, M, G⟩ := H.m
    have := (R.q q hmem).r.cap
    unfold maxLen at this
    omega
  have hm2 : ys.length = q.m := by
    rw [ecs] at hml
    have : (ys.flatMap fun y => [Value.int .i64 ((y.1 : Nat) : Int), y.2.sv]).length = ys.length * 2 := by
      clear hml ecs hys
      induction ys with
      | nil => rfl
      | cons y ys ih => simp only [List.flatMap_cons, List.length_append, ih, List.length_cons, List.length_nil]; omega
    omega
  refine wp_seq (e107 _ a L w H.F fun a1 F1 S1 q53 => ?_)
  refine wp_block (wp_loop (fun a' w' => ∃ x : Nat, x ≤ q.m ∧ a'.tmps[53]? = some (.int .i64 ((x : Nat) : Int)) ∧ En L w0 xs g v34 v35 v36 v37 a' w' ∧ Same [34, 35, 36, 37, 48, 50, 52] a a' ∧ Below w.heap.size w w') (fun a' _ => q.m - (intOf (a'.tmps[53]?.getD .nilIface)).toNat) ⟨0, Nat.zero_le _, q53, H.act F1 (S1.sub (by decide)), S1, Below.refl _ _⟩ ?_)
  rintro a2 w2 ⟨x, hx, p53, H2, S2, b2⟩
  rw [e2]
  have hqb2 := below_heap b2 hlt hqb
  have t52 := (S2 52 (by decide)).trans h52
  have t48 := (S2 48 (by decide)).trans h48
  have c5 : w2.cell? ⟨qb, 35, none⟩ = some (.slice p q.m c) := heap_cell hqb2 (by simp [qcL, hl8, esv])
  by_cases hxm : x < q.m
  · refine wp_seq (e108y _ a2 L w2 x q.m qb p c p53 t52 c5 hxm H2.F fun a3 F3 S3 => ?_)
    have H3 := H2.act F3 (S3.sub (by decide))
    obtain ⟨ρ, ix, R, M, G⟩ := H2.m
    obtain ⟨y, hy⟩ : ∃ y, ys[x]? = some y := ⟨_, List.getElem?_eq_getElem (by omega)⟩
    have f2 := flat2 (fun y : Nat × SD => Value.int .i64 ((y.1 : Nat) : Int)) (fun y => y.2.sv) ys x y hy
    rw [← ecs] at f2
    have rq := (R.q q hmem).r
    obtain ⟨g1, cap1, eg1, _, u1⟩ := rq.cell f2.1
    obtain ⟨g1', cap1', eg1', _, u2⟩ := rq.cell f2.2
    rw [eg1] at eg1'
    cases eg1'
    obtain ⟨ss, n1, n2⟩ := M.lq.g
    have lss : ss.length = g.qs.length := by simpa using n1.1
    have hsi : ss[i]? = some (ss[i]'(by omega)) := List.getElem?_eq_getElem (by omega)
    obtain ⟨m', rv⟩ := n2 i _ q hsi hq
    have em : m' = q.m := by have := rv.1; omega
    subst em
    obtain ⟨g2, cap2, eg2, _, u3⟩ := rv.cell f2.1
    obtain ⟨g2', cap2', eg2', _, u4⟩ := rv.cell f2.2
    rw [eg2] at eg2'
    cases eg2'
    obtain ⟨g3, cap3, eg3, _, u5⟩ := n1.cell hsi
    rw [eg2] at u5
    rw [esv] at eg1
    cases eg1
    have hd : y.2 ∈ xs := hys y (List.mem_of_getElem? hy)
    refine wp_seq (e110 _ a3 L w2 qb i g.qs.length g3 cap3 _ x g1 g2 c cap2 _ y.2.p y.2.p y.2.m y.2.c y.2.m y.2.c ((S3 52 (by decide)).trans t52) ((S3 48 (by decide)).trans t48) ((S3 53 (by decide)).trans p53) (eg3 ▸ H3.h37) hi hxm c5 u5 u1 u3 u2 u4 (fun n => by
      obtain ⟨S', hS'⟩ := conv_byt (c := y.2.c) (((X.inp.below M.i0.b).y y.2 hd).below (drewN_below w2 n _))
      exact eq16 (w2.drewN n) _ _ _ _ _ _ _ hS' hS') F3 fun a4 n F4 S4 => ?_)
    have H4 := H3.go F4 (S4.sub (by decide)) (drewN_below w2 n _)
    refine e109 _ a4 L (w2.drewN n) x ((S4 53 (by decide)).trans ((S3 53 (by decide)).trans p53)) (by omega) F4 fun a5 F5 S5 r53 => ?_
    refine ⟨⟨x + 1, hxm, r53, H4.act F5 (S5.sub (by decide)), S2.trans ((S3.sub (by decide)).trans ((S4.sub (by decide)).trans S5)), b2.trans (drewN_below w2 n _)⟩, ?_⟩
    rw [r53, p53]
    simp [intOf]
    omega
  · refine wp_seq (e108n _ a2 L w2 x q.m qb p c p53 t52 c5 hxm H2.F fun a3 F3 S3 => ?_)
    show Exit.inBlock 16 Q (.exit 16) a3 w2
    simp only [Exit.inBlock, if_true]
    exact k a3 w2 (H2.act F3 (S3.sub (by decide))) (S2.trans (S3.sub (by decide))) b2

/-- the loop over the certificates -/
theorem fin32 (a : Act) (w : World) (H : En L w0 xs g v34 v35 v36 v37 a w) (k : ∀ a' w', En L w0 xs g v34 v35 v36 v37 a' w' → Q .normal a' w') : (nth 32 c6).wp Yba.prog Q a w := by
  have e : nth 32 c6 = .seq (cA (nth 32 c6)) (.block 14 (.loop L14)) := rfl
  have e2 : L14 = .seq (cA L14) (.seq (.block 15 B15) (cB (cB L14))) := rfl
  have e3 : B15 = .seq (nth 0 B15) (.seq (nth 1 B15) (.seq (nth 2 B15) (.seq (nth 3 B15) (.seq (nth 4 B15) (.seq (nth 5 B15) (.seq (nth 6 B15) (.seq (nth 7 B15) (.seq (nth 8 B15) (nB 9 B15))))))))) := rfl
  rw [e]
  have hbl := X.bl
  have hl8 : (u8s L.bid).length = 32 := by simp [u8s, hbl]
  have hq3 : g.qs.length ≤ 3 := by
    obtain ⟨ρ, ix, R, M, G⟩ := H.m
    exact G.qs3
  refine wp_seq (e93 _ a L w H.F fun a1 F1 S1 q48 => ?_)
  refine wp_block (wp_loop (fun a' w' => ∃ i : Nat, i ≤ g.qs.length ∧ a'.tmps[48]? = some (.int .i64 ((i : Nat) : Int)) ∧ En L w0 xs g v34 v35 v36 v37 a' w') (fun a' _ => g.qs.length - (intOf (a'.tmps[48]?.getD .nilIface)).toNat) ⟨0, Nat.zero_le _, q48, H.act F1 S1⟩ ?_)
  rintro a2 w2 ⟨i, hi, p48, H2⟩
  rw [e2]
  obtain ⟨ρ, ix, R, M, G⟩ := H2.m
  obtain ⟨p6, c6', e36⟩ := M.lq.s.shape
  by_cases hlt : i < g.qs.length
  · refine wp_seq (e94y _ a2 L w2 i g.qs.length p6 c6' p48 (e36 ▸ H2.h36) hlt H2.F fun a3 F3 S3 => ?_)
    have t48 := (S3 48 (by decide)).trans p48
    have H3 := H2.act F3 (S3.sub (by decide))
    obtain ⟨q, hq⟩ : ∃ q, g.qs[i]? = some q := ⟨_, List.getElem?_eq_getElem hlt⟩
    have hmem := List.mem_of_getElem? hq
    obtain ⟨C, inV, mV, snV, b1, b2, b3, b4, b5⟩ := R.r
    have Qm := R.q q hmem
    obtain ⟨p, c, esv⟩ := Qm.r.shape
    have s2 := flat2 (fun _ : Ga.Q => Value.int .i64 (-1)) msgV g.qs i q hq
    have i2 := flat2 (fun _ : Ga.Q => Value.int .i64 (L.cf.id : Nat)) msgV g.qs i q hq
    obtain ⟨gs, cs, egs, _, u1⟩ := b3.cell s2.1
    obtain ⟨gs', cs', egs', _, u2⟩ := b3.cell s2.2
    rw [egs] at egs'
    cases egs'
    obtain ⟨gi, ci, egi, _, u3⟩ := b4.cell i2.1
    obtain ⟨gi', ci', egi', _, u4⟩ := b4.cell i2.2
    rw [egi] at egi'
    cases egi'
    have ql := qcL_length q.st L.ep L.cf.vw L.bid q.sv hbl
    have hqc : ∀ (j : Nat) (u : Value), (qcL q.st L.ep L.cf.vw L.bid q.sv)[j]? = some u → w2.cell? ⟨q.qp, j, none⟩ = some u := fun j u hj => Qm.b.cell (by
      have := (List.getElem?_eq_some_iff.1 hj).1
      rw [List.getElem?_toArray, List.getElem?_append_left this]
      exact hj)
    have h36c : w2.cell? ⟨q.qp, 36, none⟩ = some (.pointer L.cf.pb) := Qm.b.cell (by
      rw [List.getElem?_toArray, List.getElem?_append_right (by omega), ql]
      rfl)
    have hpb : L.cf.pb = none ∨ ∃ bb, L.cf.pb = some ⟨bb, 0, none⟩ := by
      rcases M.pb with h | ⟨bb, _, h, _⟩
      · exact .inl h
      · exact .inr ⟨bb, h⟩
    refine wp_seq (wp_block ?_)
    rw [e3]
    -- the message
    refine wp_seq (e96 _ a3 L w2 i g.qs.length gs cs q.qp t48 hlt (egs ▸ b1.cell b2.sn) u1 u2 F3 fun a4 F4 S4 q49 => ?_)
    have x1 : Below w2.heap.size w2 (w2.alloc (.cells #[.int .i64 (-1), .iface 120 (.pointer (some ⟨q.qp, 0, none⟩))] 119)) := (Below.refl _ w2).alloc (Nat.le_refl _) _
    have y1 : (w2.alloc (.cells #[.int .i64 (-1), .iface 120 (.pointer (some ⟨q.qp, 0, none⟩))] 119)).heap[w2.heap.size]? = some (.cells #[.int .i64 (-1), .iface 120 (.pointer (some ⟨q.qp, 0, none⟩))] 119 (0, 0)) := heap_alloc_new w2 _
    generalize w2.alloc (.cells #[.int .i64 (-1), .iface 120 (.pointer (some ⟨q.qp, 0, none⟩))] 119) = w3 at *
    have T3 : ∀ {b j : Nat} {v : Value}, w2.cell? ⟨b, j, none⟩ = some v → w3.cell? ⟨b, j, none⟩ = some v := fun {b j v} h => (x1.cell (p := ⟨b, j, none⟩) (World.block_lt_of_cell? w2 ⟨b, j, none⟩ h)).trans h
    refine wp_seq (e97 _ a4 L w3 _ q49 (heap_cell y1 rfl) F4 fun a5 F5 S5 => ?_)
    refine wp_seq (e99 _ a5 L w3 _ q.qp ((S5 49 (by decide)).trans q49) (heap_cell y1 rfl) F5 fun a6 F6 S6 q50 q51 => ?_)
    refine wp_seq (e100 _ a6 L w3 q.qp q50 q51 hpb (T3 h36c) F6 fun a7 F7 S7 => ?_)
    refine wp_seq (e102 _ a7 L w3 q.qp _ ql (by rw [esv]; exact qcL_one _ _ _ _ _ _ _) ((S7 50 (by decide)).trans q50) (fun j u hj => by rw [Nat.zero_add]; exact T3 (hqc j u hj)) F7 fun a8 F8 S8 q52 => ?_)
    have x2 : Below w3.heap.size w3 (w3.alloc (.cells (qcL q.st L.ep L.cf.vw L.bid q.sv).toArray 32)) := (Below.refl _ w3).alloc (Nat.le_refl _) _
    have y2 : (w3.alloc (.cells (qcL q.st L.ep L.cf.vw L.bid q.sv).toArray 32)).heap[w3.heap.size]? = some (.cells (qcL q.st L.ep L.cf.vw L.bid q.sv).toArray 32 (0, 0)) := heap_alloc_new w3 _
    generalize w3.alloc (.cells (qcL q.st L.ep L.cf.vw L.bid q.sv).toArray 32) = w4 at *
    have b34 : Below w2.heap.size w2 w4 := x1.trans (x2.mono x1.size)
    have S38 : Same [34, 35, 36, 37, 48] a3 a8 := S4.trans ((S5.sub (by decide)).trans (S6.trans ((S7.sub (by decide)).trans (S8.sub (by decide)))))
    have q50' : a8.tmps[50]? = some (.pointer (some ⟨q.qp, 0, none⟩)) := (S8 50 (by decide)).trans ((S7 50 (by decide)).trans q50)
    have H8 := H3.go F8 (S38.sub (by decide)) b34
    have r48 := (S38 48 (by decide)).trans t48
    obtain ⟨ρ4, ix4, R4, M4, G4⟩ := H8.m
    have qst : (g.qs.map fun q => Value.int .i64 (q.st : Nat))[i]? = some (.int .i64 (q.st : Nat)) := by simp [hq]
    obtain ⟨g6, cap6, eg6, _, u6⟩ := M4.lq.s.cell qst
    have qlt := (Array.getElem?_eq_some_iff.1 y2).1
    refine wp_seq (e103 _ a8 L w4 _ i g.qs.length q.st g6 cap6 q52 r48 (eg6 ▸ H8.h36) hlt (heap_cell y2 rfl) u6 (heap_cell y2 rfl) (heap_cell y2 rfl) (fun j u hj => heap_cell y2 (by
      have := (List.getElem?_eq_some_iff.1 hj).1
      rw [List.getElem?_toArray, Nat.add_comm]
      simp only [qcL, List.getElem?_cons_succ]
      rw [List.getElem?_append_left this]
      exact hj)) M4.bd.range hbl F8 fun a9 n9 F9 S9 => ?_)
    have H9 := H8.go F9 (S9.sub (by decide)) (drewN_below w4 n9 _)
    have y9 : (w4.drewN n9).heap[w3.heap.size]? = some (.cells (qcL q.st L.ep L.cf.vw L.bid q.sv).toArray 32 (0, 0)) := y2
    have bd9 : Below w4.heap.size w4 (w4.drewN n9) := drewN_below w4 n9 _
    generalize w4.drewN n9 = w5 at *
    obtain ⟨ρ5, ix5, R5, M5, G5⟩ := H9.m
    obtain ⟨ss, n1, n2⟩ := M5.lq.g
    have lss : ss.length = g.qs.length := by simpa using n1.1
    have hsi : ss[i]? = some (ss[i]'(by omega)) := List.getElem?_eq_getElem (by omega)
    obtain ⟨m', rv⟩ := n2 i _ q hsi hq
    have em : m' = q.m := by have := rv.1; have := Qm.r.1; omega
    rw [em] at rv
    obtain ⟨pv, cv, ev⟩ := rv.shape
    obtain ⟨g3, cap3, eg3, _, u5⟩ := n1.cell hsi
    rw [ev] at u5
    refine wp_seq (e105 _ a9 L w5 _ i g.qs.length g3 cap3 q.m p pv c cv ((S9 52 (by decide)).trans q52) ((S9 48 (by decide)).trans r48) (eg3 ▸ H9.h37) hlt (heap_cell y9 (by simp [qcL, hl8, esv])) u5 F9 fun a10 n10 F10 S10 => ?_)
    have H10 := H9.go F10 (S10.sub (by decide)) (drewN_below w5 n10 _)
    have y10 : (w5.drewN n10).heap[w3.heap.size]? = some (.cells (qcL q.st L.ep L.cf.vw L.bid q.sv).toArray 32 (0, 0)) := y9
    have bd10 : Below w5.heap.size w5 (w5.drewN n10) := drewN_below w5 n10 _
    generalize w5.drewN n10 = w6 at *
    have S810 : Same [34, 35, 36, 37, 48, 50, 52] a8 a10 := S9.trans S10
    refine wp_seq (fin107 _ L w0 xs g v34 v35 v36 v37 X a10 w6 H10 i _ q hq ((S810 48 (by decide)).trans r48) ((S810 52 (by decide)).trans q52) y10 fun a11 w7 H11 S11 bd11 => ?_)
    obtain ⟨ρ7, ix7, R7, M7, G7⟩ := H11.m
    obtain ⟨C7, inV7, mV7, snV7, d1, d2, d3, d4, d5⟩ := R7.r
    obtain ⟨gi7, ci7, egi7, _, u7⟩ := d4.cell i2.1
    obtain ⟨gi7', ci7', egi7', _, u8⟩ := d4.cell i2.2
    rw [egi7] at egi7'
    cases egi7'
    have r48' := (S11 48 (by decide)).trans ((S810 48 (by decide)).trans r48)
    refine wp_seq (e112 _ a11 L w7 i g.qs.length gi7 ci7 q.qp (L.cf.id : Nat) r48' hlt (egi7 ▸ d1.cell d2.inb) u7 u8 H11.F fun a12 F12 S12 q54 => ?_)
    have x8 : Below w7.heap.size w7 (w7.alloc (.cells #[.int .i64 (L.cf.id : Nat), .iface 120 (.pointer (some ⟨q.qp, 0, none⟩))] 125)) := (Below.refl _ w7).alloc (Nat.le_refl _) _
    have y8 : (w7.alloc (.cells #[.int .i64 (L.cf.id : Nat), .iface 120 (.pointer (some ⟨q.qp, 0, none⟩))] 125)).heap[w7.heap.size]? = some (.cells #[.int .i64 (L.cf.id : Nat), .iface 120 (.pointer (some ⟨q.qp, 0, none⟩))] 125 (0, 0)) := heap_alloc_new w7 _
    generalize w7.alloc (.cells #[.int .i64 (L.cf.id : Nat), .iface 120 (.pointer (some ⟨q.qp, 0, none⟩))] 125) = w8 at *
    have q50'' := (S12 50 (by decide)).trans ((S11 50 (by decide)).trans ((S810 50 (by decide)).trans q50'))
    refine e113 _ a12 L w8 _ q.qp q50'' q54 (heap_cell y8 rfl) (heap_cell y8 rfl) F12 fun a13 F13 S13 => ?_
    have H13 := H11.go F13 ((S12.sub (by decide)).trans (S13.sub (by decide))) x8
    have r48'' := (S13 48 (by decide)).trans ((S12 48 (by decide)).trans r48')
    show (cB (cB L14)).wp Yba.prog _ a13 w8
    refine e95 _ a13 L w8 i r48'' (by omega) F13 fun a14 F14 S14 z48 => ?_
    refine ⟨⟨i + 1, hlt, z48, H13.act F14 S14⟩, ?_⟩
    rw [z48, p48]
    simp [intOf]
    omega
  · refine wp_seq (e94n _ a2 L w2 i g.qs.length p6 c6' p48 (e36 ▸ H2.h36) hlt H2.F fun a3 F3 S3 => ?_)
    show Exit.inBlock 14 Q (.exit 14) a3 w2
    simp only [Exit.inBlock, if_true]
    exact k a3 w2 (H2.act F3 (S3.sub (by decide)))

/-- THE END: every check holds -/
theorem theEnd (a : Act) (w : World) (H : St L w0 xs xs.length a w) (k : ∀ a' w', a'.defers = [] → a'.tmps[16]? = some (.bool true) → Below w0.heap.size w0 w' → Q .ret a' w') : (nB 28 c6).wp Yba.prog Q a w := by
  have e : nB 28 c6 = .seq (nth 28 c6) (.seq (nth 29 c6) (.seq (nth 30 c6) (.seq (nth 31 c6) (.seq (nth 32 c6) (nB 33 c6))))) := rfl
  rw [e]
  obtain ⟨F, ρ, g, ix, v34, v35, v36, v37, h34, h35, h36, h37, r⟩ := H
  have H : En L w0 xs g v34 v35 v36 v37 a w := ⟨F, h34, h35, h36, h37, ρ, ix, r⟩
  refine wp_seq (fin28 _ L w0 xs g v34 v35 v36 v37 X a w H fun a1 H1 => ?_)
  refine wp_seq (fin29 _ L w0 xs g v34 v35 v36 v37 X a1 w H1 fun a2 w2 H2 => ?_)
  refine wp_seq (fin30 _ L w0 xs g v34 v35 v36 v37 X a2 w2 H2 fun a3 w3 H3 => ?_)
  refine wp_seq (fin31 _ L w0 xs g v34 v35 v36 v37 X a3 w3 H3 fun a4 H4 => ?_)
  refine wp_seq (fin32 _ L w0 xs g v34 v35 v36 v37 X a4 w3 H4 fun a5 w5 H5 => ?_)
  refine e115 _ a5 L w5 H5.F fun a6 hd h16 => ?_
  obtain ⟨ρ5, ix5, R5, M5, G5⟩ := H5.m
  exact k a6 w5 hd h16 M5.i0.b
end
end Go.Proofs.Ybulkcsck.Ga
