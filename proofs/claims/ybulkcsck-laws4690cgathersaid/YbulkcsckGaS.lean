/-
  OWN TEXT. LawS4690CGather: what a vote that counts does to the replica's state.
-/
import Derived.Test.YbulkcsckGaR
import Derived.Great.FillDense
namespace Go.Proofs.Ybulkcsck.Ga
open Go.RowKit

theorem fold_set_eq (l done todo : List Value) (hl : l.length ≤ todo.length) :
    (l.zipIdx.foldl (fun cs (x : Value × Nat) => cs.setIfInBounds (done.length + x.2) x.1) (done ++ todo).toArray) = (done ++ l ++ todo.drop l.length).toArray := by
  obtain ⟨h1, h2⟩ := Great.foldl_set done.length l 0 (done ++ todo).toArray
  apply Array.ext_getElem?
  intro k
  rw [h2 k]
  simp only [Nat.add_zero, List.size_toArray, List.length_append, List.getElem?_toArray]
  by_cases hk : done.length ≤ k ∧ k < done.length + l.length ∧ k < done.length + todo.length
  · rw [if_pos hk]
    rw [List.getElem?_append_left (by simp; omega), List.getElem?_append_right (by omega)]
  · rw [if_neg hk]
    by_cases h3 : k < done.length
    · rw [List.getElem?_append_left h3, List.append_assoc, List.getElem?_append_left h3]
    · rw [List.getElem?_append_right (by omega), List.append_assoc, List.getElem?_append_right (by omega), List.getElem?_append_right (by omega), List.getElem?_drop]
      congr 1
      omega

def seqOk (place : Nat → Option (Nat × Nat)) : Nat → List (Nat × Value) → Prop
  | _, [] => True
  | n, (i, v) :: r => place i = some (n, v.cells.size) ∧ seqOk place (n + v.cells.size) r
def flat (parts : List (Nat × Value)) : List Value := parts.flatMap (fun x => x.2.cells.toList)

theorem fill_seq (place : Nat → Option (Nat × Nat)) : ∀ (parts : List (Nat × Value)) (done todo : List Value), seqOk place done.length parts → todo.length = (flat parts).length →
    Instr.fill place (done ++ todo).toArray parts = some (done ++ flat parts).toArray
  | [], done, todo, _, h => by
    have : todo = [] := List.length_eq_zero_iff.1 (by simpa [flat] using h)
    subst this
    simp [Instr.fill, flat]
  | (i, v) :: r, done, todo, hok, h => by
    obtain ⟨h1, h2⟩ := hok
    have hlen : todo.length = v.cells.size + (flat r).length := by simpa [flat] using h
    have e := fold_set_eq v.cells.toList done todo (by simp; omega)
    have ih := fill_seq place r (done ++ v.cells.toList) (todo.drop v.cells.size) (by simpa using h2) (by simp; omega)
    unfold Instr.fill
    simp only [h1]
    rw [if_neg (by simp; omega)]
    rw [← Array.foldl_toList, Array.toList_zipIdx, e]
    simp only [Array.length_toList] at ih ⊢
    rw [ih]
    simp [flat]

theorem built32 (s ep vw : Int) (bid : List Int) (hl : bid.length = 32) (p : Option Addr) (m c : Nat) : Yba.prog.built 32 [(0, .int .i64 s), (1, .int .i64 ep), (2, .int .i64 vw), (3, .agg (u8s bid).toArray), (4, .slice p m c)] = some (qcL s ep vw bid (.slice p m c)).toArray := by
  have h3 : (u8s bid).length = 32 := by simp [u8s, hl]
  have hz : ∃ z : List Value, z.length = 36 ∧ ∀ parts, Yba.prog.built 32 parts = Instr.fill (#[(0, 1), (1, 1), (2, 1), (3, 32), (35, 1)][·]?) z.toArray parts := by
    refine ⟨((Yba.t32.zero.getD undef).cells).toList, by kernel_rfl, fun parts => by kernel_rfl⟩
  obtain ⟨z, hzl, hb⟩ := hz
  rw [hb]
  have := fill_seq (#[(0, 1), (1, 1), (2, 1), (3, 32), (35, 1)][·]?) [(0, .int .i64 s), (1, .int .i64 ep), (2, .int .i64 vw), (3, .agg (u8s bid).toArray), (4, .slice p m c)] [] z (by simp [seqOk, Value.cells, h3]) (by simp [flat, Value.cells, h3, hzl])
  simpa [flat, Value.cells, qcL] using this
theorem qcL_length (s ep vw : Int) (bid : List Int) (sg : Value) (hl : bid.length = 32) : (qcL s ep vw bid sg).length = 36 := by simp [qcL, u8s, hl]
theorem built123 (cs : List Value) (hl : cs.length = 36) (p : Option Addr) : Yba.prog.built 123 [(0, .agg cs.toArray), (1, .pointer p)] = some (cs ++ [Value.pointer p]).toArray := by
  have hz : ∃ z : List Value, z.length = 37 ∧ ∀ parts, Yba.prog.built 123 parts = Instr.fill (#[(0, 36), (36, 1)][·]?) z.toArray parts := by
    refine ⟨((Yba.t123.zero.getD undef).cells).toList, by kernel_rfl, fun parts => by kernel_rfl⟩
  obtain ⟨z, hzl, hb⟩ := hz
  rw [hb]
  have := fill_seq (#[(0, 36), (36, 1)][·]?) [(0, .agg cs.toArray), (1, .pointer p)] [] z (by simp [seqOk, Value.cells, hl]) (by simp [flat, Value.cells, hl, hzl])
  simpa [flat, Value.cells] using this
theorem alloc32 : ∃ Z : List Value, Z.length = 36 ∧ ∀ w : World, (Instr.alloc 32 true (.tuple #[])).run Yba.prog w = .ok (.pointer (some ⟨w.heap.size, 0, none⟩)) (w.alloc (.cells Z.toArray 32)) :=
  ⟨((Yba.t32.zero.getD undef).cells).toList, by kernel_rfl, fun w => by kernel_rfl⟩
theorem wp_alloc {P : Program} {Q : Exit → Act → World → Prop} {o : Oper} {a : Act} {t : TypeId} {w w' : World} {v : Value} {K : Act → World → Prop} (ho : o.op = .alloc t) (hr : (Instr.alloc t true (.tuple #[])).run P w = .ok v w') (h : K (a.put o.dst v) w') : o.wp P a w K Q := by
  unfold Oper.wp execOp
  simp only [ho, Sem.run_bind, hr, Result.andThen_ok, Sem.run_pure]
  exact h

theorem GateS.chg {ρ ρ' : Nat → Nat} {R : Nat → Prop} {mb bb : Nat} {s e v ep vw : Int} {bm bid : List Int} {w w' : World} (h : GateS mb bb s e v ep vw bm bid w) (c : Chg ρ ρ' R w w') (hm : ¬ R (ρ mb)) (hb : ¬ R (ρ bb)) : GateS mb bb s e v ep vw bm bid w' := by
  have k : ∀ {b i : Nat} {u : Value}, ¬ R (ρ b) → w.cell? ⟨b, i, none⟩ = some u → w'.cell? ⟨b, i, none⟩ = some u := fun {b i u} hR hu => (World.cell?_of_block (w := w) (a := ⟨b, i, none⟩) (c.block b (World.block_lt_of_cell? w ⟨b, i, none⟩ hu) hR)).trans hu
  exact ⟨⟨k hm h.1.1, k hm h.1.2.1, k hm h.1.2.2.1, fun j u hj => k hm (h.1.2.2.2 j u hj)⟩, k hb h.2.1, k hb h.2.2.1, fun j u hj => k hb (h.2.2.2 j u hj)⟩

/-- the state behind a vote that was added -/
def addG (s fr : Nat) (sv : Value) (g : Gh) : Gh := { g with
  has := fun t => if t = s then (g.has s).set fr true else g.has t
  cnt := fun t => if t = s then g.cnt s + 1 else g.cnt t
  sig := fun t => if t = s then (g.sig s).set fr sv else g.sig t }

theorem Rep.add {ρ : Nat → Nat} {cf : Cf} {ep : Int} {bid : List Int} {g : Gh} {w : World} (h : Rep ρ cf ep bid g w) {s : Nat} (h1 : 1 ≤ s) (h3 : s ≤ 3) (fr : Nat) (ps : Option Addr) (ns cs : Nat) (hf : (g.has s)[fr]? = some false) (hc : g.cnt s ≤ 1000) :
    Calls Yba.prog 26 #[.pointer (some ⟨cf.vb s, 0, none⟩), .int .i64 (fr : Int), .slice ps ns cs] w fun e w' => e = .returned (.bool true) ∧ Rep ρ cf ep bid (addG s fr (.slice ps ns cs) g) w' ∧ Chg ρ ρ (fun r => 1 ≤ r ∧ r ≤ 17) w w' := by
  refine (add_new ρ s w _ _ _ _ _ _ _ fr ps ns cs (h.ss h1 h3) hf hc).mono ?_
  rintro e w' ⟨rfl, k, c⟩
  refine ⟨rfl, ?_, c.mono (fun r h => by omega)⟩
  obtain ⟨⟨C, inV, mV, snV, a1, a2, a3, a4, a5⟩, ky, s1, s2, s3, q⟩ := h
  refine ⟨⟨C, inV, mV, snV, a1.chg c (by omega), a2, a3.chg c (by omega), a4.chg c (by omega), a5.chg c (by omega)⟩, ky.chg c (by omega) (by omega) (by omega) (by omega) (by omega), ?_, ?_, ?_, fun x hx => (q x hx).chg c (by omega)⟩
  · by_cases e : s = 1
    · subst e; simpa [addG] using k
    · simpa [addG, Ne.symm e] using s1.chg c (by omega) (by omega) (by omega)
  · by_cases e : s = 2
    · subst e; simpa [addG] using k
    · simpa [addG, Ne.symm e] using s2.chg c (by omega) (by omega) (by omega)
  · by_cases e : s = 3
    · subst e; simpa [addG] using k
    · simpa [addG, Ne.symm e] using s3.chg c (by omega) (by omega) (by omega)

/-- what region 4 reads -/
def R4 (rb vb n f kb cnt : Nat) (pay : Value) (w : World) : Prop := w.cell? ⟨vb, 1, none⟩ = some (.int .i64 cnt) ∧ w.rangeAt rb 1 [.int .i64 n, .int .i64 f, .iface 96 (.pointer (some ⟨kb, 0, none⟩)), pay]
theorem Rep.r4 {ρ : Nat → Nat} {cf : Cf} {ep : Int} {bid : List Int} {g : Gh} {w : World} (h : Rep ρ cf ep bid g w) {s : Nat} (h1 : 1 ≤ s) (h3 : s ≤ 3) : R4 cf.rb (cf.vb s) cf.n cf.f cf.kb (g.cnt s) cf.pay w := by
  obtain ⟨C, inV, mV, snV, a1, a2, a3, a4, a5⟩ := h.r
  refine ⟨(h.ss h1 h3).v.cell rfl, ?_⟩
  intro j u hj
  rcases j with _ | _ | _ | _ | j
  · simp at hj; subst hj; exact a1.cell a2.n
  · simp at hj; subst hj; exact a1.cell a2.f
  · simp at hj; subst hj; exact a1.cell a2.k
  · simp at hj; subst hj; exact a1.cell a2.pay
  · simp at hj
theorem eqlI {a : Act} {x y : Operand} (m n : Int) (r : Bool) (hr : (m == n) = r) (w : World) (hx : a.eval x = .int .i64 m := by kernel_rfl) (hy : a.eval y = .int .i64 n := by kernel_rfl) : (do eqGuard .eql 3 x y (a.eval x) (a.eval y); binOp .eql 3 (a.eval x) (a.eval y) : Sem Value).run Yba.prog w = .ok (.bool r) w := by
  rw [hx, hy, ← hr]
  simp [go_sem]
end Go.Proofs.Ybulkcsck.Ga
