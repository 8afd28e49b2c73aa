/-
  OWN TEXT. LawS4697BCopyAndChange: the append; the two hooks behind a change.
-/
import Derived.Test.YbulkcsgeE
import Derived.ArgAppend
namespace Go.Proofs.Ybulkcsge
open Go.RowKit

theorem wpList_append_any {P : Program} {w w' : World} {ops : Array Oper} {rest : List Oper} {o : Oper} {a : Act} {Q : Exit → Act → World → Prop} (hgd : o.guard = none) (s x : Operand) (t ty : TypeId)
    (ho : o.op = .call { callee := .builtin .append, args := #[s, x], argTypes := #[t, t] }) (hty : o.type = ty) {v y v' : Value} (hs : a.eval s = v) (hx : a.eval x = y) (hr : (Builtin.append_ #[t, t] ty #[v, y]).run P w = .ok v' w')
    (h : wpList P ops Q rest (a.put o.dst v') w') : wpList P ops Q (o :: rest) a w := by
  subst hty
  refine wpList_plain hgd fun K hK => ?_
  unfold Oper.wp execOp
  simp only [ho, resolve, invoke, builtin, Sem.run_bind, Sem.run_pure, Result.andThen_ok, List.map_toArray, List.map_cons, List.map_nil, hs, hx, hr]
  exact hK _ _ h

theorem owns_sv {w : World} {base : Nat} {v : Value} {l : List ByteArray} {k : Nat} (h : w.ownsRow base 9 1 v (k + 1) (l.map Value.string)) : ∃ p c, v = .slice p l.length c ∧ SV w v false l ∧ ∀ a, p = some a → base ≤ a.block := by
  obtain ⟨h1, h2⟩ := h
  have hk : l.length = k + 1 := by simpa using h1
  rcases h2 with ⟨_, h0⟩ | ⟨g, cap, cur, rfl, hb, hg, _, _, hs, ht⟩
  · omega
  · rw [← hk]
    refine ⟨_, _, rfl, .some g 0 cap l ?_ (Array.getElem?_eq_some_iff.1 hg).1, fun a e => by cases e; exact hb⟩
    intro j u hj
    have hj' : (cur.toList.take ((k + 1) * 1))[j]? = some u := by rw [ht]; exact hj
    rw [List.getElem?_take] at hj'
    split at hj'
    · simp only [World.cell?, hg, Nat.zero_add]
      simpa using hj'
    · cases hj'

/-- append(o.Args, s) -/
theorem app22 {B : Nat} {w : World} {va : Value} {n : Bool} {l : List ByteArray} (h : Own B w va n l) (s : ByteArray) (hl : l.length ≤ 1024) :
    ∃ p c w', (Builtin.append_ #[22, 22] 22 #[va, .slice (some ⟨w.heap.size, 0, none⟩) 1 1]).run Yba.prog (w.alloc (.cells #[.string s] 9)) = .ok (.slice p (l ++ [s]).length c) w' ∧ SV w' (.slice p (l ++ [s]).length c) false (l ++ [s]) ∧ Below w.heap.size w w' ∧ ∀ a, p = some a → w.heap.size ≤ a.block := by
  obtain ⟨i, hi, hz, hsz, hby⟩ := info9
  have hnew : ∀ j u, ([Value.string s])[j]? = some u → (w.alloc (.cells #[.string s] 9)).cell? ((⟨w.heap.size, 0, none⟩ : Addr).add j) = some u := by
    intro j u hj
    match j with
    | 0 =>
      simp at hj
      subst hj
      simp [go_sem, Addr.add]
    | j + 1 => simp at hj
  have b1 : Below w.heap.size w (w.alloc (.cells #[.string s] 9)) := (Below.refl _ _).alloc (Nat.le_refl _) _
  rcases h with ⟨rfl, rfl, rfl⟩ | ⟨rfl, g, hg, rfl, hk⟩
  · obtain ⟨v', w', hrun, r1, r2, _⟩ := run_append_own (P := Yba.prog) (w.alloc (.cells #[.string s] 9)) (w.alloc (.cells #[.string s] 9)).heap.size 22 22 9 i _ 1 16 Yba.underlying22 hi hz hsz hby rfl (by decide) (.slice none 0 0) 0 [] (World.ownsRow_nil _ _ 9 1)
      ⟨w.heap.size, 0, none⟩ 1 1 [.string s] rfl hnew (by simp [Value.oneCell']) (by decide) (by decide) (Nat.le_refl _)
    obtain ⟨p, c, rfl, hsv, hbs⟩ := owns_sv (l := [s]) (k := 0) r1
    exact ⟨p, c, w', hrun, hsv, b1.grown r2 b1.size (fun k e => by cases e), fun a e => Nat.le_trans b1.size (hbs a e)⟩
  · obtain ⟨v', w', hrun, r1, r2⟩ := run_append_arg_grows (P := Yba.prog) (w.alloc (.cells #[.string s] 9)) 22 22 9 i _ 1 16 Yba.underlying22 hi hz hsz hby rfl (by decide) ⟨g, 0, none⟩ l.length l.length (l.map Value.string) (by simp)
      (fun j u hj => by
        have : (⟨g, 0, none⟩ : Addr).add j = ⟨g, j, none⟩ := by unfold Addr.add; split <;> simp_all
        rw [this]
        have hlt := (Array.getElem?_eq_some_iff.1 hk).1
        rw [b1.cell (p := ⟨g, j, none⟩) hlt]
        have := range_block hk j u hj
        rwa [Nat.zero_add] at this)
      ⟨w.heap.size, 0, none⟩ 1 1 [.string s] rfl hnew (by omega) (by unfold maxLen; omega) (by omega)
    have e : l.map Value.string ++ [Value.string s] = (l ++ [s]).map Value.string := by simp
    rw [e] at r1
    obtain ⟨p, c, rfl, hsv, hbs⟩ := owns_sv (l := l ++ [s]) (k := l.length) r1
    exact ⟨p, c, w', hrun, hsv, b1.grown r2 b1.size (fun k e => by cases e), fun a e => Nat.le_trans b1.size (hbs a e)⟩

section
variable {w : World} {hv : Hv} {va ve : Value} {tp : Option Addr} {va' ve' : Value} {tp' : Option Addr} {O : Nat} {w3 W X : World}
/-- the first hook, in any world that has kept what lies below O -/
theorem Cop.hookHX (h : Cop w hv va ve tp va' ve' tp' O w3 W) (hX : Below O w3 X) : Hook X w.heap.size va ve tp hv := by
  have hb := h.b3.trans (hX.mono (Nat.le_of_lt h.lt))
  exact ⟨h.h3.below (h.sz ▸ hX), h.a.below hb, h.e.below hb, h.t.below hb, Nat.le_trans h.l1 (by decide), Nat.le_trans h.l2 (by decide)⟩

/-- behind the change: both hooks, not alike -/
structure Chg (w X : World) (b b' : Nat) (hv : Hv) : Prop where
  ex : ∃ va ve tp va' ve' tp' hv' c c', Hook X b va ve tp hv ∧ Hook X b' va' ve' tp' hv' ∧ ¬ hv = hv' ∧ PE X tp tp' c ∧ PE X tp' tp c'
  bl : Below w.heap.size w X
theorem Chg.no {b b' : Nat} (h : Chg w X b b' hv) : Calls Yba.prog 5 #[.pointer (some ⟨b, 0, none⟩), .pointer (some ⟨b', 0, none⟩)] X fun e w' => e = .returned (.bool false) ∧ Below X.heap.size X w' := by
  obtain ⟨va, ve, tp, va', ve', tp', hv', c, c', h1, h2, h3, h4, h5⟩ := h.ex
  exact equal_no h1 h2 h4 h3
theorem Chg.no' {b b' : Nat} (h : Chg w X b b' hv) : Calls Yba.prog 5 #[.pointer (some ⟨b', 0, none⟩), .pointer (some ⟨b, 0, none⟩)] X fun e w' => e = .returned (.bool false) ∧ Below X.heap.size X w' := by
  obtain ⟨va, ve, tp, va', ve', tp', hv', c, c', h1, h2, h3, h4, h5⟩ := h.ex
  exact equal_no h2 h1 h5 (fun e => h3 e.symm)
theorem Chg.below {b b' : Nat} {X' : World} (h : Chg w X b b' hv) (hb : Below X.heap.size X X') : Chg w X' b b' hv := by
  obtain ⟨va, ve, tp, va', ve', tp', hv', c, c', h1, h2, h3, h4, h5⟩ := h.ex
  exact ⟨⟨va, ve, tp, va', ve', tp', hv', c, c', h1.below hb, h2.below hb, h3, h4.below hb, h5.below hb⟩, h.bl.trans (hb.mono h.bl.size)⟩

/-- a change to path, args or env -/
theorem Cop.chg (h : Cop w hv va ve tp va' ve' tp' O w3 W) (hX : Below O w3 X) (hO1 : X.heap[O + 1]? = W.heap[O + 1]?) {p2 : ByteArray} {va2 ve2 : Value} {n2 m2 : Bool} {la2 le2 : List ByteArray}
    (blk : X.heap[O]? = some (.cells #[.string p2, va2, ve2, .pointer tp'] 25 (0, 0))) (sa : SV X va2 n2 la2) (se : SV X ve2 m2 le2) (l1 : la2.length ≤ 2000) (l2 : le2.length ≤ 2000)
    (hne : ¬ hv = ⟨p2, n2, la2, m2, le2, hv.x⟩) : Chg w X w.heap.size O hv := by
  have hb := h.b3.trans (hX.mono (Nat.le_of_lt h.lt))
  have hH := h.hookHX hX
  have tt : (tp = none ∧ tp' = none ∧ hv.x = none) ∨ (∃ x, hv.x = some x ∧ tp' = some ⟨O + 1, 0, none⟩ ∧ X.heap[O + 1]? = some (.cells #[.int .i64 x] 3 (0, 0))) := by
    rw [hO1]; exact h.tt
  have hT : TV X tp' hv.x := by
    rcases tt with ⟨h1, h2, h3⟩ | ⟨x, h1, h2, h3⟩
    · rw [h2, h3]; exact .none
    · rw [h1, h2]; exact .some _ _ _ (cell_block (L := [_]) h3 rfl) (Array.getElem?_eq_some_iff.1 h3).1
  have pe : ∃ c c', PE X tp tp' c ∧ PE X tp' tp c' := by
    rcases tt with ⟨h1, h2, h3⟩ | ⟨x, h1, h2, h3⟩
    · rw [h1, h2]; exact ⟨_, _, pe_same _ _, pe_same _ _⟩
    · have ht := h.t
      rw [h1] at ht
      rw [h2]
      cases ht with
      | some b o x hx hl =>
        have := pe_own (w := X) (b := b) (o := o) (g := O + 1) ((hb.cell (p := ⟨b, o, none⟩) hl).trans hx) (Nat.lt_of_lt_of_le hl hb.size) h3 (by have := h.lt; omega)
        exact ⟨_, _, this.1, this.2⟩
  obtain ⟨c, c', p1, p2'⟩ := pe
  exact ⟨⟨va, ve, tp, va2, ve2, tp', ⟨p2, n2, la2, m2, le2, hv.x⟩, c, c', hH, ⟨⟨cell_block (L := [_, _, _, _]) blk rfl, cell_block (L := [_, _, _, _]) blk rfl, cell_block (L := [_, _, _, _]) blk rfl, cell_block (L := [_, _, _, _]) blk rfl, (Array.getElem?_eq_some_iff.1 blk).1⟩, sa, se, hT, l1, l2⟩, hne, p1, p2'⟩, hb⟩

/-- a change to the timeout: none, or a variable of the call's own at g -/
theorem Cop.chgT (h : Cop w hv va ve tp va' ve' tp' O w3 W) (hX : Below O w3 X) {tp2 : Option Addr} {x2 : Option Int}
    (blk : X.heap[O]? = some (.cells #[.string hv.p, va', ve', .pointer tp2] 25 (0, 0))) (ht2 : (tp2 = none ∧ x2 = none) ∨ (∃ g x, tp2 = some ⟨g, 0, none⟩ ∧ x2 = some x ∧ O ≤ g ∧ X.heap[g]? = some (.cells #[.int .i64 x] 3 (0, 0)))) (hne : ¬ hv.x = x2) : Chg w X w.heap.size O hv := by
  have hb := h.b3.trans (hX.mono (Nat.le_of_lt h.lt))
  have hH := h.hookHX hX
  have b := h.sz ▸ hX
  have hT : TV X tp2 x2 := by
    rcases ht2 with ⟨h2, h3⟩ | ⟨g, x, h1, h2, _, h3⟩
    · rw [h2, h3]; exact .none
    · rw [h1, h2]; exact .some _ _ _ (cell_block (L := [_]) h3 rfl) (Array.getElem?_eq_some_iff.1 h3).1
  have pe : ∃ c c', PE X tp tp2 c ∧ PE X tp2 tp c' := by
    have ht := h.t
    rcases ht2 with ⟨h2, h3⟩ | ⟨g, x, h1, h2, hg, h3⟩
    · rw [h2]
      cases tp with
      | none => exact ⟨_, _, pe_same _ _, pe_same _ _⟩
      | some a => exact ⟨_, _, pe_nil_r _ _, pe_nil_l _ _⟩
    · rw [h1]
      generalize hv.x = y at ht
      cases ht with
      | none => exact ⟨_, _, pe_nil_l _ _, pe_nil_r _ _⟩
      | some b o x hx hl =>
        have := pe_own (w := X) (b := b) (o := o) (g := g) ((hb.cell (p := ⟨b, o, none⟩) hl).trans hx) (Nat.lt_of_lt_of_le hl hb.size) h3 (by have := h.lt; omega)
        exact ⟨_, _, this.1, this.2⟩
  obtain ⟨c, c', p1, p2'⟩ := pe
  exact ⟨⟨va, ve, tp, va', ve', tp2, ⟨hv.p, hv.n, hv.la, hv.m, hv.le, x2⟩, c, c', hH, ⟨⟨cell_block (L := [_, _, _, _]) blk rfl, cell_block (L := [_, _, _, _]) blk rfl, cell_block (L := [_, _, _, _]) blk rfl, cell_block (L := [_, _, _, _]) blk rfl, (Array.getElem?_eq_some_iff.1 blk).1⟩, h.oa.sv.below b, h.oe.sv.below b, hT, Nat.le_trans h.l1 (by decide), Nat.le_trans h.l2 (by decide)⟩, (fun e => hne (congrArg Hv.x e)), p1, p2'⟩, hb⟩

theorem heap_setCell_same {w : World} {b i : Nat} {c : Array Value} {t : TypeId} {f : Nat × Nat} (h : w.heap[b]? = some (.cells c t f)) (v : Value) : (w.setCell ⟨b, i, none⟩ v).heap[b]? = some (.cells (c.setIfInBounds i v) t f) := by
  simp [World.setCell, Array.getElem?_modify, h]
theorem SV.setCell {w : World} {v : Value} {n : Bool} {l : List ByteArray} (h : SV w v n l) (O i : Nat) (u : Value) (hne : ∀ (a : Addr) k c, v = .slice (Option.some a) k c → k = 0 ∨ a.block ≠ O) : SV (w.setCell ⟨O, i, none⟩ u) v n l := by
  cases h with
  | nil => exact .nil
  | empty a c => exact .empty a c
  | some b o c l hr hl =>
    rcases hne _ _ _ rfl with h0 | h0
    · have e := List.length_eq_zero_iff.1 h0
      subst e
      exact .empty _ _
    · refine .some b o c l (fun j v hj => ?_) (by simpa [World.setCell] using hl)
      rw [World.cell?_of_block (w := w) (a := ⟨b, o + j, none⟩) (Below.heap_setCell w _ _ b h0)]
      exact hr j v hj

/-- a change to the path -/
theorem Cop.set0 (h : Cop w hv va ve tp va' ve' tp' O w3 W) (p2 : ByteArray) (hne : ¬ hv.p = p2) : Chg w (W.setCell ⟨O, 0, none⟩ (.string p2)) w.heap.size O hv := by
  have b := h.sz ▸ h.bW
  have bX : Below O w3 (W.setCell ⟨O, 0, none⟩ (.string p2)) := h.bW.setCell (p := ⟨O, 0, none⟩) (Nat.le_refl _) _
  refine h.chg bX (Below.heap_setCell _ _ _ _ (by simp)) (heap_setCell_same h.blk _) ((h.oa.sv).below (h.sz ▸ bX)) ((h.oe.sv).below (h.sz ▸ bX)) (Nat.le_trans h.l1 (by decide)) (Nat.le_trans h.l2 (by decide)) (fun e => hne (congrArg Hv.p e))
/-- a change to the args -/
theorem Cop.set1 (h : Cop w hv va ve tp va' ve' tp' O w3 W) {W' : World} (hW : Below W.heap.size W W') {v2 : Value} {n2 : Bool} {la2 : List ByteArray} (sv : SV W' v2 n2 la2) (av : ∀ a k c, v2 = .slice (some a) k c → k = 0 ∨ a.block ≠ O) (l2 : la2.length ≤ 2000)
    (hne : ¬ (hv.n = n2 ∧ hv.la = la2)) : Chg w (W'.setCell ⟨O, 1, none⟩ v2) w.heap.size O hv := by
  have h := h.below hW
  have bX : Below O w3 (W'.setCell ⟨O, 1, none⟩ v2) := h.bW.setCell (p := ⟨O, 1, none⟩) (Nat.le_refl _) _
  refine h.chg bX (Below.heap_setCell _ _ _ _ (by simp)) (heap_setCell_same h.blk _) (sv.setCell O 1 v2 av) ((h.oe.sv).below (h.sz ▸ bX)) l2 (Nat.le_trans h.l2 (by decide)) (fun e => hne ⟨congrArg Hv.n e, congrArg Hv.la e⟩)
/-- a change to the env -/
theorem Cop.set2 (h : Cop w hv va ve tp va' ve' tp' O w3 W) {W' : World} (hW : Below W.heap.size W W') {v2 : Value} {n2 : Bool} {la2 : List ByteArray} (sv : SV W' v2 n2 la2) (av : ∀ a k c, v2 = .slice (some a) k c → k = 0 ∨ a.block ≠ O) (l2 : la2.length ≤ 2000)
    (hne : ¬ (hv.m = n2 ∧ hv.le = la2)) : Chg w (W'.setCell ⟨O, 2, none⟩ v2) w.heap.size O hv := by
  have h := h.below hW
  have bX : Below O w3 (W'.setCell ⟨O, 2, none⟩ v2) := h.bW.setCell (p := ⟨O, 2, none⟩) (Nat.le_refl _) _
  refine h.chg bX (Below.heap_setCell _ _ _ _ (by simp)) (heap_setCell_same h.blk _) ((h.oa.sv).below (h.sz ▸ bX)) (sv.setCell O 2 v2 av) (Nat.le_trans h.l1 (by decide)) l2 (fun e => hne ⟨congrArg Hv.m e, congrArg Hv.le e⟩)
/-- a change to the timeout -/
theorem Cop.set3 (h : Cop w hv va ve tp va' ve' tp' O w3 W) (hne : ¬ hv.x = none) : Chg w (W.setCell ⟨O, 3, none⟩ (.pointer none)) w.heap.size O hv := by
  have bX : Below O w3 (W.setCell ⟨O, 3, none⟩ (.pointer none)) := h.bW.setCell (p := ⟨O, 3, none⟩) (Nat.le_refl _) _
  exact h.chgT bX (heap_setCell_same h.blk _) (.inl ⟨rfl, rfl⟩) hne
theorem Cop.set3' (h : Cop w hv va ve tp va' ve' tp' O w3 W) (x2 : Int) (hne : ¬ hv.x = some x2) : Chg w ((W.alloc (.cells #[.int .i64 x2] 3)).setCell ⟨O, 3, none⟩ (.pointer (some ⟨W.heap.size, 0, none⟩))) w.heap.size O hv := by
  have hO : O < W.heap.size := (Array.getElem?_eq_some_iff.1 h.blk).1
  have h' := h.below ((Below.refl _ W).alloc (Nat.le_refl _) (.cells #[.int .i64 x2] 3))
  have bX : Below O w3 ((W.alloc (.cells #[.int .i64 x2] 3)).setCell ⟨O, 3, none⟩ (.pointer (some ⟨W.heap.size, 0, none⟩))) := h'.bW.setCell (p := ⟨O, 3, none⟩) (Nat.le_refl _) _
  refine h'.chgT bX (heap_setCell_same h'.blk _) (.inr ⟨W.heap.size, x2, rfl, rfl, Nat.le_of_lt hO, ?_⟩) hne
  rw [Below.heap_setCell _ _ _ _ (by simp; omega)]
  exact heap_alloc_new W _
end
end Go.Proofs.Ybulkcsge
