/-
  OWN TEXT. LawS4690CGather: the set-up: the two loops; the state in front of the main loop.
-/
import Derived.Test.YbulkcsckGbS
set_option linter.unusedVariables false
namespace Go.Proofs.Ybulkcsck.Ga
open Go.RowKit

theorem RC0.set {n f id kb : Nat} {ep vw wi : Int} {lv : Bool} {pb : Option Addr} {pay : Value} {C : Array Value} (h : RC0 n f id kb ep vw wi lv pb pay C) {s : Nat} (h1 : 1 ≤ s) (h3 : s ≤ 3) (v : Value) : RC0 n f id kb ep vw wi lv pb pay (C.setIfInBounds (97 + s) v) := by
  refine ⟨fun t t1 t3 => ?_, set_ne h.id (by omega), set_ne h.n (by omega), set_ne h.f (by omega), set_ne h.k (by omega), set_ne h.pay (by omega), set_ne h.vw (by omega), set_ne h.wi (by omega), set_ne h.lv (by omega), set_ne h.pb (by omega), set_ne h.inb (by omega), set_ne h.m (by omega), set_ne h.sn (by omega)⟩
  obtain ⟨u, hu⟩ := h.v t t1 t3
  by_cases e : s = t
  · subst e
    exact ⟨v, set_eq hu⟩
  · exact ⟨u, set_ne hu (by omega)⟩

/-- a new set of signers at stage s -/
theorem newSs {ρ : Nat → Nat} {w w3 : World} {rb hb gb s n : Nat} {C : Array Value} (h1 : 1 ≤ s) (h3 : s ≤ 3) (hR : Bk ρ 1 w rb C 72) (e1 : w.heap.size ≤ hb) (e2 : w.heap.size ≤ gb) (e3 : hb ≠ gb) (e4 : hb < w3.heap.size) (e5 : gb < w3.heap.size)
    (e6 : w3.heap[hb]? = some (.cells (List.replicate n (Value.bool false)).toArray 4 (0, 0))) (e7 : w3.heap[gb]? = some (.cells (List.replicate n (Value.slice none 0 0)).toArray 37 (0, 0))) (hB : Below w.heap.size w w3) :
    ∃ ρ', Chg ρ ρ' (fun r => r = 1) w ((w3.alloc (.cells #[.slice (some ⟨hb, 0, none⟩) n n, .int .i64 0, .slice (some ⟨gb, 0, none⟩) n n] 103)).setCell ⟨rb, 97 + s, none⟩ (.pointer (some ⟨w3.heap.size, 0, none⟩))) ∧
      Ss ρ' s ((w3.alloc (.cells #[.slice (some ⟨hb, 0, none⟩) n n, .int .i64 0, .slice (some ⟨gb, 0, none⟩) n n] 103)).setCell ⟨rb, 97 + s, none⟩ (.pointer (some ⟨w3.heap.size, 0, none⟩))) w3.heap.size hb gb n 0 (List.replicate n false) (List.replicate n (Value.slice none 0 0)) ∧
      Bk ρ' 1 ((w3.alloc (.cells #[.slice (some ⟨hb, 0, none⟩) n n, .int .i64 0, .slice (some ⟨gb, 0, none⟩) n n] 103)).setCell ⟨rb, 97 + s, none⟩ (.pointer (some ⟨w3.heap.size, 0, none⟩))) rb (C.setIfInBounds (97 + s) (.pointer (some ⟨w3.heap.size, 0, none⟩))) 72 := by
  have hB4 : Below w.heap.size w (w3.alloc (.cells #[.slice (some ⟨hb, 0, none⟩) n n, .int .i64 0, .slice (some ⟨gb, 0, none⟩) n n] 103)) := hB.alloc hB.size _
  have hv : (w3.alloc (.cells #[.slice (some ⟨hb, 0, none⟩) n n, .int .i64 0, .slice (some ⟨gb, 0, none⟩) n n] 103)).heap[w3.heap.size]? = some (.cells #[.slice (some ⟨hb, 0, none⟩) n n, .int .i64 0, .slice (some ⟨gb, 0, none⟩) n n] 103 (0, 0)) := heap_alloc_new w3 _
  have hh : (w3.alloc (.cells #[.slice (some ⟨hb, 0, none⟩) n n, .int .i64 0, .slice (some ⟨gb, 0, none⟩) n n] 103)).heap[hb]? = some (.cells (List.replicate n (Value.bool false)).toArray 4 (0, 0)) := (Below.heap_alloc w3 _ hb e4).trans e6
  have hg : (w3.alloc (.cells #[.slice (some ⟨hb, 0, none⟩) n n, .int .i64 0, .slice (some ⟨gb, 0, none⟩) n n] 103)).heap[gb]? = some (.cells (List.replicate n (Value.slice none 0 0)).toArray 37 (0, 0)) := (Below.heap_alloc w3 _ gb e5).trans e7
  have hsz := hB.size
  generalize w3.alloc (.cells #[.slice (some ⟨hb, 0, none⟩) n n, .int .i64 0, .slice (some ⟨gb, 0, none⟩) n n] 103) = w4 at *
  generalize w3.heap.size = vb at *
  obtain ⟨ρ', er⟩ : ∃ ρ' : Nat → Nat, ρ' = fun k => if k < w.heap.size then ρ k else if k = hb then 5 + s else if k = gb then 8 + s else 2 + s := ⟨_, rfl⟩
  have ro : ∀ k, k < w.heap.size → ρ' k = ρ k := fun k hk => by rw [er]; simp [hk]
  have rh : ρ' hb = 5 + s := by rw [er]; simp [Nat.not_lt.2 e1]
  have rg : ρ' gb = 8 + s := by rw [er]; simp [Nat.not_lt.2 e2, Ne.symm e3]
  have rv : ρ' vb = 2 + s := by
    rw [er]
    simp only []
    rw [if_neg (by omega), if_neg (by omega), if_neg (by omega)]
  have c1 : Chg ρ ρ' (fun _ => False) w w4 := ⟨hB4.os, hB4.tape, hB4.output, hB4.size, ro, fun k hk _ => hB4.block k hk⟩
  have hR4 := hR.chg c1 (fun q => q)
  have c2 : Chg ρ' ρ' (fun r => r = 1) w4 (w4.setCell ⟨rb, 97 + s, none⟩ (.pointer (some ⟨vb, 0, none⟩))) := Chg.setCell w4 rb _ _ hR4.r
  have v4 : Bk ρ' (2 + s) w4 vb #[.slice (some ⟨hb, 0, none⟩) n n, .int .i64 0, .slice (some ⟨gb, 0, none⟩) n n] 103 := ⟨hv, rv⟩
  have h4 : Bk ρ' (5 + s) w4 hb ((List.replicate n false).map Value.bool).toArray 4 := ⟨by rw [List.map_replicate]; exact hh, rh⟩
  have g4 : Bk ρ' (8 + s) w4 gb (List.replicate n (Value.slice none 0 0)).toArray 37 := ⟨hg, rg⟩
  exact ⟨ρ', (c1.mono (fun _ q => q.elim)).trans c2, ⟨v4.chg c2 (by omega), h4.chg c2 (by omega), g4.chg c2 (by omega), by simp, by simp⟩, hR4.set _ _⟩

/-- the loop that makes the sets of signers -/
theorem loop1 (Q : Exit → Act → World → Prop) (a : Act) (w0 w : World) (A : Ar) (ρ : Nat → Nat) (bb kb rb : Nat) (pb : Option Addr) (pay : Value) (C : Array Value) (hn : A.n ≤ 100) (P : P2 a A bb kb rb pb) (B : Bs ρ w0 w bb kb pb A.ep A.vw (bidOf A.tg A.md)) (hR : Bk ρ 1 w rb C 72) (hC : RC0 A.n A.f A.id kb A.ep A.vw A.wi A.lv pb pay C)
    (k : ∀ a' w' ρ' C' (vb hb gb : Nat → Nat), P2 a' A bb kb rb pb → Bs ρ' w0 w' bb kb pb A.ep A.vw (bidOf A.tg A.md) → Bk ρ' 1 w' rb C' 72 → RC0 A.n A.f A.id kb A.ep A.vw A.wi A.lv pb pay C' → (∀ t, 1 ≤ t → t ≤ 3 → C'[97 + t]? = some (.pointer (some ⟨vb t, 0, none⟩))) → (∀ t, 1 ≤ t → t ≤ 3 → Ss ρ' t w' (vb t) (hb t) (gb t) A.n 0 (List.replicate A.n false) (List.replicate A.n (Value.slice none 0 0))) → Q .normal a' w') : (nth 16 c6).wp Yba.prog Q a w := by
  have e : nth 16 c6 = .seq (cA (nth 16 c6)) (.block 1 (.loop L1)) := rfl
  have e2 : L1 = .seq (cA L1) (.seq (cA (cB L1)) (cB (cB L1))) := rfl
  rw [e]
  refine wp_seq (t23 _ a w P.p.F fun a1 F1 S1 q27 => ?_)
  refine wp_block (wp_loop (fun a' w' => ∃ s : Nat, 1 ≤ s ∧ s ≤ 4 ∧ a'.tmps[27]? = some (.int .i64 ((s : Nat) : Int)) ∧ P2 a' A bb kb rb pb ∧ ∃ ρ' C' , ∃ vb hb gb : Nat → Nat, Bs ρ' w0 w' bb kb pb A.ep A.vw (bidOf A.tg A.md) ∧ Bk ρ' 1 w' rb C' 72 ∧ RC0 A.n A.f A.id kb A.ep A.vw A.wi A.lv pb pay C' ∧ (∀ t, 1 ≤ t → t < s → C'[97 + t]? = some (.pointer (some ⟨vb t, 0, none⟩))) ∧ (∀ t, 1 ≤ t → t < s → Ss ρ' t w' (vb t) (hb t) (gb t) A.n 0 (List.replicate A.n false) (List.replicate A.n (Value.slice none 0 0))))
    (fun a' _ => 4 - (intOf (a'.tmps[27]?.getD .nilIface)).toNat) ⟨1, by decide, by decide, q27, P.go F1 S1, ρ, C, fun _ => 0, fun _ => 0, fun _ => 0, B, hR, hC, fun t _ _ => by omega, fun t _ _ => by omega⟩ ?_)
  rintro a2 w2 ⟨s, h1, h4, p27, P2', ρ2, C2, vb, hb, gb, B2, R2, hC2, hv, hS⟩
  rw [e2]
  by_cases h3 : s ≤ 3
  · refine wp_seq (t24y _ a2 w2 s p27 h3 P2'.p.F fun a3 F3 S3 => ?_)
    have P3' := P2'.go F3 (S3.sub (by decide))
    have r27 := (S3 27 (by decide)).trans p27
    obtain ⟨u, hu⟩ := hC2.v s h1 h3
    refine wp_seq (t26 _ a3 w2 rb s A.n (by omega) (by omega) P3'.s26 r27 P3'.p.s18 u C2 R2.h hu F3 fun a4 hb' gb' w3 F4 S4 e1 e2 e3 e4 e5 e6 e7 hB => ?_)
    obtain ⟨ρ', c', Sn, Rn⟩ := newSs h1 h3 R2 e1 e2 e3 e4 e5 e6 e7 hB
    have P4' := P3'.go F4 (S4.sub (by decide))
    refine t25 _ a4 _ s ((S4 27 (by decide)).trans r27) (by omega) F4 fun a5 F5 S5 z27 => ?_
    refine ⟨⟨s + 1, by omega, by omega, z27, P4'.go F5 S5, ρ', _, fun t => if t = s then w3.heap.size else vb t, fun t => if t = s then hb' else hb t, fun t => if t = s then gb' else gb t, B2.chg c' (by decide) (by decide) (by decide) (by decide), Rn, hC2.set h1 h3 _, fun t t1 t2 => ?_, fun t t1 t2 => ?_⟩, ?_⟩
    · by_cases et : t = s
      · subst et
        simp only [if_true]
        exact set_eq hu
      · simp only [if_neg et]
        exact set_ne (hv t t1 (by omega)) (by omega)
    · by_cases et : t = s
      · subst et
        simp only [if_true]
        exact Sn
      · simp only [if_neg et]
        exact (hS t t1 (by omega)).chg c' (by omega) (by omega) (by omega)
    · rw [z27, p27]
      simp [intOf]
      omega
  · refine wp_seq (t24n _ a2 w2 s p27 h3 P2'.p.F fun a3 F3 S3 => ?_)
    show Exit.inBlock 1 Q (.exit 1) a3 w2
    simp only [Exit.inBlock, if_true]
    exact k a3 w2 ρ2 C2 vb hb gb (P2'.go F3 (S3.sub (by decide))) B2 R2 hC2 (fun t t1 t3 => hv t t1 (by omega)) (fun t t1 t3 => hS t t1 (by omega))

/-- the law's slots are laid -/
structure P3 (a : Act) (A : Ar) (bb kb rb : Nat) (pb : Option Addr) (hA iA cA : Nat) : Prop where
  p : P2 a A bb kb rb pb
  s28 : a.tmps[28]? = some (.bool (pb.isSome && (!A.lv && decide (A.wi ≤ A.vw))))
  s29 : a.tmps[29]? = some (.int .i64 ((A.n - A.f : Nat) : Int))
  s30 : a.tmps[30]? = some (.pointer (some ⟨hA, 0, none⟩))
  s31 : a.tmps[31]? = some (.pointer (some ⟨iA, 0, none⟩))
  s32 : a.tmps[32]? = some (.pointer (some ⟨cA, 0, none⟩))
theorem P3.go {a a' : Act} {A : Ar} {bb kb rb : Nat} {pb : Option Addr} {hA iA cA : Nat} (h : P3 a A bb kb rb pb hA iA cA) (F : Fz a') (S : Same [0, 1, 2, 3, 4, 5, 6, 7, 17, 18, 19, 20, 21, 22, 23, 24, 25, 26, 28, 29, 30, 31, 32] a a') : P3 a' A bb kb rb pb hA iA cA :=
  ⟨h.p.go F (S.sub (by decide)), (S 28 (by decide)).trans h.s28, (S 29 (by decide)).trans h.s29, (S 30 (by decide)).trans h.s30, (S 31 (by decide)).trans h.s31, (S 32 (by decide)).trans h.s32⟩

def gh0 (n : Nat) : Gh := ⟨false, [], [], fun _ => List.replicate n false, fun _ => 0, fun _ => List.replicate n (Value.slice none 0 0), []⟩
def hr (n s : Nat) (l : Nat → Nat) : Array Value := #[.slice none 0 0, if 1 < s then .slice (some ⟨l 1, 0, none⟩) n n else .slice none 0 0, if 2 < s then .slice (some ⟨l 2, 0, none⟩) n n else .slice none 0 0, if 3 < s then .slice (some ⟨l 3, 0, none⟩) n n else .slice none 0 0]
theorem hr_set (n s b : Nat) (l : Nat → Nat) (h1 : 1 ≤ s) (h3 : s ≤ 3) : (hr n s l).setIfInBounds s (.slice (some ⟨b, 0, none⟩) n n) = hr n (s + 1) (fun t => if t = s then b else l t) := by
  rcases (by omega : s = 1 ∨ s = 2 ∨ s = 3) with rfl | rfl | rfl <;> simp [hr]
theorem hr_get (n s : Nat) (l : Nat → Nat) (h3 : s ≤ 3) : ∃ u, (hr n s l)[s]? = some u := ⟨_, Array.getElem?_eq_getElem (by show s < 4; omega)⟩
/-- the memory in front of the law's second loop -/
structure M0 (ρ : Nat → Nat) (cf : Cf) (ep : Int) (bid : List Int) (w0 w : World) (bb hA iA cA : Nat) : Prop where
  rp : Rep ρ cf ep bid (gh0 cf.n) w
  i0 : In0 ρ w0 w
  bd : Bk ρ 20 w bb (u8s bid).toArray 30
  pb : PB ρ cf.pb ep cf.vw bid w
  lc : Bk ρ 24 w cA #[.int .i64 0, .int .i64 0, .int .i64 0, .int .i64 0] 106
theorem M0.chg {ρ ρ' : Nat → Nat} {R : Nat → Prop} {cf : Cf} {ep : Int} {bid : List Int} {w0 w w' : World} {bb hA iA cA : Nat} (h : M0 ρ cf ep bid w0 w bb hA iA cA) (c : Chg ρ ρ' R w w') (hR : ∀ r, r ≤ 21 → ¬ R r) (h24 : ¬ R 24) : M0 ρ' cf ep bid w0 w' bb hA iA cA :=
  ⟨h.rp.chg c (fun r _ _ => hR r (by omega)), h.i0.chg c (hR 0 (by decide)), h.bd.chg c (hR 20 (by decide)), h.pb.chg c (hR 21 (by decide)), h.lc.chg c h24⟩

/-- a store of a fresh row into one of the law's arrays -/
theorem rowInto {ρ : Nat → Nat} {w : World} {b s : Nat} {c : Array Value} {t e : TypeId} {q r : Nat} (hq : q ≠ r) (hb : Bk ρ q w b c t) (cells : Array Value) (v : Value) :
    ∃ ρ', Chg ρ ρ' (fun x => x = q) w ((w.alloc (.cells cells e)).setCell ⟨b, s, none⟩ v) ∧ Bk ρ' q ((w.alloc (.cells cells e)).setCell ⟨b, s, none⟩ v) b (c.setIfInBounds s v) t ∧ Bk ρ' r ((w.alloc (.cells cells e)).setCell ⟨b, s, none⟩ v) w.heap.size cells e ∧
      (∀ u, c[s]? = some u → (w.alloc (.cells cells e)).cell? ⟨b, s, none⟩ = some u ∧ (w.alloc (.cells cells e)).frozen? ⟨b, s, none⟩ = false) := by
  have c1 : Chg ρ (rx ρ w r) (fun _ => False) w (w.alloc (.cells cells e)) := Chg.alloc w _ r
  have b1 := hb.chg c1 (fun q => q)
  have c2 : Chg (rx ρ w r) (rx ρ w r) (fun x => x = q) (w.alloc (.cells cells e)) ((w.alloc (.cells cells e)).setCell ⟨b, s, none⟩ v) := Chg.setCell _ b s v b1.r
  exact ⟨rx ρ w r, (c1.mono (fun _ q => q.elim)).trans c2, b1.set s v, (Bk.new ρ w cells e r).chg c2 (by omega), fun u hu => ⟨b1.cell hu, b1.fz s⟩⟩

theorem loop3 (Q : Exit → Act → World → Prop) (a : Act) (w0 w : World) (A : Ar) (ρ : Nat → Nat) (cf : Cf) (hcn : cf.n = A.n) (bb kb rb : Nat) (pb : Option Addr) (hA iA cA : Nat) (hn : A.n ≤ 100) (P : P3 a A bb kb rb pb hA iA cA) (M : M0 ρ cf A.ep (bidOf A.tg A.md) w0 w bb hA iA cA) (hH : Bk ρ 22 w hA (hr A.n 1 fun _ => 0) 104) (hI : Bk ρ 23 w iA (hr A.n 1 fun _ => 0) 105)
    (k : ∀ a' w' ρ' (lh li : Nat → Nat), P3 a' A bb kb rb pb hA iA cA → M0 ρ' cf A.ep (bidOf A.tg A.md) w0 w' bb hA iA cA → Bk ρ' 22 w' hA (hr A.n 4 lh) 104 → Bk ρ' 23 w' iA (hr A.n 4 li) 105 → (∀ t, 1 ≤ t → t ≤ 3 → Bk ρ' (24 + t) w' (lh t) (List.replicate A.n (Value.bool false)).toArray 4) → (∀ t, 1 ≤ t → t ≤ 3 → Bk ρ' (27 + t) w' (li t) (List.replicate A.n (Value.int .i64 0)).toArray 3) → Q .normal a' w') : (nth 22 c6).wp Yba.prog Q a w := by
  have e : nth 22 c6 = .seq (Ga.cA (nth 22 c6)) (.block 3 (.loop L3)) := rfl
  have e2 : L3 = .seq (Ga.cA L3) (.seq (.block 4 (.seq (Ga.cA (cIn (Ga.cA (cB L3)))) (cB (cIn (Ga.cA (cB L3)))))) (cB (cB L3))) := rfl
  rw [e]
  refine wp_seq (t32 _ a w P.p.p.F fun a1 F1 S1 q33 => ?_)
  refine wp_block (wp_loop (fun a' w' => ∃ s : Nat, 1 ≤ s ∧ s ≤ 4 ∧ a'.tmps[33]? = some (.int .i64 ((s : Nat) : Int)) ∧ P3 a' A bb kb rb pb hA iA cA ∧ ∃ ρ', ∃ lh li : Nat → Nat, M0 ρ' cf A.ep (bidOf A.tg A.md) w0 w' bb hA iA cA ∧ Bk ρ' 22 w' hA (hr A.n s lh) 104 ∧ Bk ρ' 23 w' iA (hr A.n s li) 105 ∧ (∀ t, 1 ≤ t → t < s → Bk ρ' (24 + t) w' (lh t) (List.replicate A.n (Value.bool false)).toArray 4) ∧ (∀ t, 1 ≤ t → t < s → Bk ρ' (27 + t) w' (li t) (List.replicate A.n (Value.int .i64 0)).toArray 3))
    (fun a' _ => 4 - (intOf (a'.tmps[33]?.getD .nilIface)).toNat) ⟨1, by decide, by decide, q33, P.go F1 S1, ρ, fun _ => 0, fun _ => 0, M, hH, hI, fun t _ _ => by omega, fun t _ _ => by omega⟩ ?_)
  rintro a2 w2 ⟨s, h1, h4, p33, P2', ρ2, lh, li, M2, H2, I2, hh, hi⟩
  rw [e2]
  by_cases h3 : s ≤ 3
  · refine wp_seq (t33y _ a2 w2 s p33 h3 P2'.p.p.F fun a3 F3 S3 => ?_)
    have P3' := P2'.go F3 (S3.sub (by decide))
    have r33 := (S3 33 (by decide)).trans p33
    refine wp_seq (wp_block (wp_seq ?_))
    obtain ⟨u, hu⟩ := hr_get A.n s lh h3
    obtain ⟨ρ3, c3, H3, L3, f3⟩ := rowInto (s := s) (e := 4) (q := 22) (r := 24 + s) (by omega) H2 (List.replicate A.n (Value.bool false)).toArray (.slice (some ⟨w2.heap.size, 0, none⟩) A.n A.n)
    obtain ⟨y1, y2⟩ := f3 u hu
    refine t35 _ a3 w2 hA s A.n (by omega) (by omega) P3'.s30 r33 P3'.p.p.s18 u y1 y2 F3 fun a4 F4 S4 => ?_
    have P4' := P3'.go F4 (S4.sub (by decide))
    have r33' := (S4 33 (by decide)).trans r33
    have M3 := M2.chg c3 (fun r _ => by omega) (by decide)
    have I3 := I2.chg c3 (by decide)
    have hh3 : ∀ t, 1 ≤ t → t < s → Bk ρ3 (24 + t) _ (lh t) (List.replicate A.n (Value.bool false)).toArray 4 := fun t t1 t2 => (hh t t1 t2).chg c3 (by omega)
    have hi3 : ∀ t, 1 ≤ t → t < s → Bk ρ3 (27 + t) _ (li t) (List.replicate A.n (Value.int .i64 0)).toArray 3 := fun t t1 t2 => (hi t t1 t2).chg c3 (by omega)
    rw [hr_set A.n s _ lh h1 h3] at H3
    generalize w2.heap.size = nh at *
    generalize (w2.alloc (.cells (List.replicate A.n (Value.bool false)).toArray 4)).setCell ⟨hA, s, none⟩ (.slice (some ⟨nh, 0, none⟩) A.n A.n) = w3 at *
    obtain ⟨u', hu'⟩ := hr_get A.n s li h3
    obtain ⟨ρ4, c4, I4, L4, f4⟩ := rowInto (s := s) (e := 3) (q := 23) (r := 27 + s) (by omega) I3 (List.replicate A.n (Value.int .i64 0)).toArray (.slice (some ⟨w3.heap.size, 0, none⟩) A.n A.n)
    obtain ⟨y3, y4⟩ := f4 u' hu'
    refine t36 _ a4 w3 iA s A.n (by omega) (by omega) P4'.s31 r33' P4'.p.p.s18 u' y3 y4 F4 fun a5 F5 S5 => ?_
    have P5' := P4'.go F5 (S5.sub (by decide))
    rw [hr_set A.n s _ li h1 h3] at I4
    refine t34 _ a5 _ s ((S5 33 (by decide)).trans r33') (by omega) F5 fun a6 F6 S6 z33 => ?_
    refine ⟨⟨s + 1, by omega, by omega, z33, P5'.go F6 S6, ρ4, _, _, M3.chg c4 (fun r _ => by omega) (by decide), H3.chg c4 (by decide), I4, fun t t1 t2 => ?_, fun t t1 t2 => ?_⟩, ?_⟩
    · by_cases et : t = s
      · subst et
        simp only [if_true]
        exact L3.chg c4 (by omega)
      · simp only [if_neg et]
        exact (hh3 t t1 (by omega)).chg c4 (by omega)
    · by_cases et : t = s
      · subst et
        simp only [if_true]
        exact L4
      · simp only [if_neg et]
        exact (hi3 t t1 (by omega)).chg c4 (by omega)
    · rw [z33, p33]
      simp [intOf]
      omega
  · refine wp_seq (t33n _ a2 w2 s p33 h3 P2'.p.p.F fun a3 F3 S3 => ?_)
    have es : s = 4 := by omega
    subst es
    show Exit.inBlock 3 Q (.exit 3) a3 w2
    simp only [Exit.inBlock, if_true]
    exact k a3 w2 ρ2 lh li (P2'.go F3 (S3.sub (by decide))) M2 H2 I2 (fun t t1 t3 => hh t t1 (by omega)) (fun t t1 t3 => hi t t1 (by omega))
end Go.Proofs.Ybulkcsck.Ga
