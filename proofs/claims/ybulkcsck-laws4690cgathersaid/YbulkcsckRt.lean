/-
  OWN TEXT OF THIS SEAT. A region that draws its order, walked in bulk: all operations that yield their value in every world that meets S are taken first, in one step.
-/
import Derived.OrdersHeld
import Derived.Deep.MidRow
import Derived.Deep.WholeRow
import Derived.WalkKit
import Derived.WalkSpells
import Derived.ChangeKeysEq
namespace Go.Proofs.Ybulkcsck.Rt
open Go.RowKit

section
variable {P : Program} {ops : Array Oper} {Q : Exit → Act → World → Prop} {md : Region.Mode} {S : World → Prop}

def dstOf (ops : Array Oper) (i : Nat) : Option Tmp := (ops[i]?).bind (·.dst)
def putAll (ops : Array Oper) : List (Nat × Value) → Act → Act
  | [], a => a
  | (i, v) :: r, a => putAll ops r (a.put (dstOf ops i) v)
def listAll : List (Nat × Value) → Array Bool → Array Bool
  | [], l => l
  | (i, _) :: r, l => listAll r (l.setIfInBounds i true)
def YAll (P : Program) (ops : Array Oper) (S : World → Prop) (a : Act) : List (Nat × Value) → Prop
  | [] => True
  | (i, v) :: r => (∃ o, ops[i]? = some o ∧ YieldsIf P ops S o v a) ∧ YAll P ops S a r
def clear1 (ops : Array Oper) (o : Oper) (j : Nat) : Bool :=
  match dstOf ops j with
  | some d => !(o.looksAt ops).contains d
  | none => true
def okAll (md : Region.Mode) (ops : Array Oper) : List (Nat × Value) → Array Bool → Bool
  | [], _ => true
  | (i, _) :: r, l => Region.free md ops l i && (Region.ready md ops l).contains i &&
      (match ops[i]? with
       | some o => clear1 ops o i && r.all (fun x => clear1 ops o x.1)
       | none => false) && okAll md ops r (l.setIfInBounds i true)

theorem yields_back {o : Oper} {v : Value} (hs : ∀ cs b, o.op ≠ .select cs b) : ∀ (r : List (Nat × Value)) (a : Act), r.all (fun x => clear1 ops o x.1) = true →
    YieldsIf P ops S o v (putAll ops r a) → YieldsIf P ops S o v a
  | [], _, _, h => h
  | (j, u) :: r, a, hc, h => by
    simp only [List.all_cons, Bool.and_eq_true] at hc
    have h1 := yields_back hs r (a.put (dstOf ops j) u) hc.2 h
    have hd : ∀ d, dstOf ops j = some d → d ∉ o.looksAt ops := by
      intro d hd
      have := hc.1
      simp only [clear1, hd] at this
      simpa using this
    exact h1.of_same (execOp_put o hs a (dstOf ops j) u hd).symm (wanted_put o a (dstOf ops j) u hd).symm

theorem takes (hs : Region.noSelect ops = true) (hQ : ∀ c a d v w, Q (.panic c) (Act.put a d v) w → Q (.panic c) a w) :
    ∀ (T : List (Nat × Value)) (listed : Array Bool) (a : Act) (fuel : Nat) (w : World), okAll md ops T listed = true → YAll P ops S (putAll ops T a) T → S w →
      wpAnyH P md ops Q S fuel (listAll T listed) (putAll ops T a) w → wpAnyH P md ops Q S (fuel + T.length) listed a w
  | [], _, _, _, _, _, _, _, h => h
  | (i, v) :: r, listed, a, fuel, w, hok, hY, hS, h => by
    simp only [okAll, Bool.and_eq_true] at hok
    obtain ⟨⟨⟨hf, hr⟩, hm⟩, hrest⟩ := hok
    obtain ⟨⟨o, ho, hy⟩, hYr⟩ := hY
    simp only [ho, Bool.and_eq_true] at hm
    have ih := takes hs hQ r (listed.setIfInBounds i true) (a.put (dstOf ops i) v) fuel w hrest hYr hS h
    have hdst : dstOf ops i = o.dst := by simp [dstOf, ho]
    have hy' : YieldsIf P ops S o v a := yields_back (Region.noSelect_spec hs i o · · ho) ((i, v) :: r) a (by simp [hm.1, hm.2]) hy
    rw [hdst] at ih
    exact wpAnyH_take (fuel := fuel + r.length) ho hs hf hr (fun c a w => hQ c a _ _ w) hy' hS ih

/-- no way out by a panic, nor by want of room -/
def np (Q : Exit → Act → World → Prop) : Exit → Act → World → Prop
  | .panic _, _, _ => False
  | .outgrown, _, _ => False
  | e, a, w => Q e a w
theorem np_le (Q : Exit → Act → World → Prop) (e : Exit) (a : Act) (w : World) (h : np Q e a w) : Q e a w := by
  cases e <;> first | exact h | exact h.elim

/-- THE BEGINNING: the region, all of T taken. -/
theorem region {id : Nat} {a : Act} {w : World} (S : World → Prop) (T : List (Nat × Value)) (fuel : Nat) (hm : P.follows .mixedOrders = true) (hs : Region.noSelect ops = true)
    (hn : ops.size = fuel + T.length) (hok : okAll .any ops T (Array.replicate ops.size false) = true)
    (hS : S w.drew) (hY : YAll P ops S (putAll ops T a) T) (h : wpAnyH P .any ops (np Q) S fuel (listAll T (Array.replicate ops.size false)) (putAll ops T a) w.drew) :
    (Code.region id ops true).wp P Q a w := by
  refine Code.wp_mono (np_le Q) ?_
  refine wp_region_held (S := S) hm ?_
  rw [hn]
  rw [hn] at hok h
  exact takes hs (fun _ _ _ _ _ h => h) T _ a fuel _ hok hY hS h

/-- FURTHER ON: more of them taken. -/
theorem more {a : Act} {w : World} {listed : Array Bool} {n : Nat} (T : List (Nat × Value)) (fuel : Nat) (hs : Region.noSelect ops = true)
    (hn : n = fuel + T.length) (hok : okAll md ops T listed = true)
    (hS : S w) (hY : YAll P ops S (putAll ops T a) T) (h : wpAnyH P md ops (np Q) S fuel (listAll T listed) (putAll ops T a) w) :
    wpAnyH P md ops (np Q) S n listed a w := by
  rw [hn]
  exact takes hs (fun _ _ _ _ _ h => h) T _ a fuel _ hok hY hS h

/-- ONE OPERATION that turns the world: it alone may come up. -/
theorem one {a : Act} {w : World} {listed : Array Bool} {fuel : Nat} {o : Oper} (i : Nat) (hr : Region.ready md ops listed = [i]) (ho : ops[i]? = some o) (hw : Region.wanted o (yielded ops a.tmps) = true)
    (h : o.wp P a w (fun a' w' => S w' ∧ wpAnyH P md ops (np Q) S fuel (listed.setIfInBounds i true) a' w') (np Q)) : wpAnyH P md ops (np Q) S (fuel + 1) listed a w := by
  refine wpAnyH_all hr (by simp) ?_
  intro j hj
  simp only [List.mem_singleton] at hj
  subst hj
  unfold wpOp
  simp only [ho, hw, if_true]
  exact .inl h

theorem oneL {a : Act} {w : World} {listed : Array Bool} {fuel : Nat} {o : Oper} {l r : List Oper} (i : Nat) (hr : Region.ready md l.toArray listed = [i]) (hd : l.drop i = o :: r) (hw : Region.wanted o (yielded l.toArray a.tmps) = true)
    (h : o.wp P a w (fun a' w' => S w' ∧ wpAnyH P md l.toArray (np Q) S fuel (listed.setIfInBounds i true) a' w') (np Q)) : wpAnyH P md l.toArray (np Q) S (fuel + 1) listed a w :=
  one i hr (by
    have : l[i]? = some o := by rw [← Nat.add_zero i, ← List.getElem?_drop, hd]; rfl
    simpa using this) hw h
/-- ALL have come up. -/
theorem done {a : Act} {w : World} {listed : Array Bool} (hr : Region.ready md ops listed = []) (h : Q .normal a w) (fuel : Nat) : wpAnyH P md ops (np Q) S fuel listed a w := wpAnyH_done (Q := np Q) hr h fuel

/-! ### the same, the operations as a list and a mask of values beside it: 'some v': taken now, it yields v; 'none': not now -/
def putL : List Oper → List (Option Value) → Act → Act
  | o :: l, some v :: T, a => putL l T (a.put o.dst v)
  | _ :: l, none :: T, a => putL l T a
  | _, _, a => a
def YL (P : Program) (ops : Array Oper) (S : World → Prop) (a : Act) : List Oper → List (Option Value) → Prop
  | o :: l, some v :: T => YieldsIf P ops S o v a ∧ YL P ops S a l T
  | _ :: l, none :: T => YL P ops S a l T
  | _, _ => True
def idx : List (Option Value) → Nat → List (Nat × Value)
  | some v :: T, k => (k, v) :: idx T (k + 1)
  | none :: T, k => idx T (k + 1)
  | [], _ => []

theorem putL_eq : ∀ (l : List Oper) (T : List (Option Value)) (k : Nat) (a : Act), T.length ≤ l.length → (∀ j, l[j]? = ops[k + j]?) → putL l T a = putAll ops (idx T k) a
  | o :: l, some v :: T, k, a, hl, h => by
    have h0 : ops[k]? = some o := by simpa using (h 0).symm
    have := putL_eq l T (k + 1) (a.put o.dst v) (by simpa using hl) (fun j => by have := h (j + 1); rw [List.getElem?_cons_succ] at this; rw [this]; congr 1; omega)
    simp only [putL, idx, putAll, dstOf, h0, Option.bind_some]
    exact this
  | _ :: l, none :: T, k, a, hl, h => by
    have := putL_eq l T (k + 1) a (by simpa using hl) (fun j => by have := h (j + 1); rw [List.getElem?_cons_succ] at this; rw [this]; congr 1; omega)
    simp only [putL, idx]
    exact this
  | [], [], _, _, _, _ => rfl
  | _ :: _, [], _, _, _, _ => rfl
theorem YL_all {a : Act} : ∀ (l : List Oper) (T : List (Option Value)) (k : Nat), T.length ≤ l.length → (∀ j, l[j]? = ops[k + j]?) → YL P ops S a l T → YAll P ops S a (idx T k)
  | o :: l, some v :: T, k, hl, h, hy => by
    have h0 : ops[k]? = some o := by simpa using (h 0).symm
    exact ⟨⟨o, h0, hy.1⟩, YL_all l T (k + 1) (by simpa using hl) (fun j => by have := h (j + 1); rw [List.getElem?_cons_succ] at this; rw [this]; congr 1; omega) hy.2⟩
  | _ :: l, none :: T, k, hl, h, hy =>
    YL_all l T (k + 1) (by simpa using hl) (fun j => by have := h (j + 1); rw [List.getElem?_cons_succ] at this; rw [this]; congr 1; omega) hy
  | [], [], _, _, _, _ => trivial
  | _ :: _, [], _, _, _, _ => trivial

theorem yc {a : Act} {o : Oper} {l : List Oper} {v : Value} {T : List (Option Value)} (h : YieldsIf P ops S o v a) (r : YL P ops S a l T) : YL P ops S a (o :: l) (some v :: T) := ⟨h, r⟩
theorem yn {a : Act} {o : Oper} {l : List Oper} {T : List (Option Value)} (r : YL P ops S a l T) : YL P ops S a (o :: l) (none :: T) := r
theorem ye {a : Act} {l : List Oper} : YL P ops S a l [] := by cases l <;> trivial

/-- THE BEGINNING. -/
theorem regionL {id : Nat} {a : Act} {w : World} {l : List Oper} (S : World → Prop) (T : List (Option Value)) (fuel : Nat) (hm : P.follows .mixedOrders = true) (hs : Region.noSelect l.toArray = true)
    (hT : T.length.ble l.length = true) (hn : l.length = fuel + (idx T 0).length) (hok : okAll .any l.toArray (idx T 0) (Array.replicate l.length false) = true)
    (hS : S w.drew) (hY : YL P l.toArray S (putL l T a) l T) (h : wpAnyH P .any l.toArray (np Q) S fuel (listAll (idx T 0) (Array.replicate l.length false)) (putL l T a) w.drew) :
    (Code.region id l.toArray true).wp P Q a w := by
  have hT := Nat.le_of_ble_eq_true hT
  have e := putL_eq (ops := l.toArray) l T 0 a hT (by simp)
  have y := YL_all (ops := l.toArray) l T 0 hT (by simp) hY
  rw [e] at y h
  refine region S (idx T 0) fuel hm hs (by simpa using hn) (by simpa using hok) hS y ?_
  simpa using h
/-- FURTHER ON. -/
theorem moreL {a : Act} {w : World} {listed : Array Bool} {n : Nat} {l : List Oper} (T : List (Option Value)) (fuel : Nat) (hs : Region.noSelect l.toArray = true) (hT : T.length.ble l.length = true)
    (hn : n = fuel + (idx T 0).length) (hok : okAll md l.toArray (idx T 0) listed = true)
    (hS : S w) (hY : YL P l.toArray S (putL l T a) l T) (h : wpAnyH P md l.toArray (np Q) S fuel (listAll (idx T 0) listed) (putL l T a) w) :
    wpAnyH P md l.toArray (np Q) S n listed a w := by
  have hT := Nat.le_of_ble_eq_true hT
  have e := putL_eq (ops := l.toArray) l T 0 a hT (by simp)
  have y := YL_all (ops := l.toArray) l T 0 hT (by simp) hY
  rw [e] at y h
  exact more (idx T 0) fuel hs hn hok hS y h

/-! ### a region in the order of its text: the first of its operations in bulk -/
def okSeq (ops : Array Oper) : List Oper → List (Option Value) → Bool
  | o :: l, some _ :: T => (match o.dst with | some d => !(o.looksAt ops).contains d | none => true) && okRest ops o l T && okSeq ops l T
  | _, [] => true
  | _, _ => false
where okRest (ops : Array Oper) (o : Oper) : List Oper → List (Option Value) → Bool
  | p :: l, some _ :: T => (match p.dst with | some d => !(o.looksAt ops).contains d | none => true) && okRest ops o l T
  | _, [] => true
  | _, _ => false

theorem yields_backL {o : Oper} {v : Value} (hs : ∀ cs b, o.op ≠ .select cs b) : ∀ (l : List Oper) (T : List (Option Value)) (a : Act), okSeq.okRest ops o l T = true →
    YieldsIf P ops S o v (putL l T a) → YieldsIf P ops S o v a
  | p :: l, some u :: T, a, hc, h => by
    simp only [okSeq.okRest, Bool.and_eq_true] at hc
    have h1 := yields_backL hs l T (a.put p.dst u) hc.2 h
    have hd : ∀ d, p.dst = some d → d ∉ o.looksAt ops := by
      intro d hd
      have := hc.1
      simp only [hd] at this
      simpa using this
    exact h1.of_same (execOp_put o hs a p.dst u hd).symm (wanted_put o a p.dst u hd).symm
  | [], [], _, _, h => h
  | _ :: _, [], _, _, h => h
  | _ :: _, none :: _, _, hc, _ => by simp [okSeq.okRest] at hc
  | [], _ :: _, _, hc, _ => by simp [okSeq.okRest] at hc

theorem seq_takes {w : World} (hs : ∀ (o : Oper) cs b, o ∈ ops → o.op ≠ .select cs b) : ∀ (l : List Oper) (T : List (Option Value)) (a : Act), (∀ o ∈ l, o ∈ ops) → okSeq ops l T = true → YL P ops (fun w' => w' = w) (putL l T a) l T →
    wpList P ops Q (l.drop T.length) (putL l T a) w → wpList P ops Q l a w
  | o :: l, some v :: T, a, hm, hc, hy, h => by
    simp only [okSeq, Bool.and_eq_true] at hc
    have ih := seq_takes hs l T (a.put o.dst v) (fun p hp => hm p (List.mem_cons_of_mem _ hp)) hc.2 hy.2 h
    have hy1 := yields_backL (hs o · · (hm o List.mem_cons_self)) l T (a.put o.dst v) hc.1.2 hy.1
    have hd : ∀ d, o.dst = some d → d ∉ o.looksAt ops := by
      intro d hd
      have := hc.1.1
      simp only [hd] at this
      simpa using this
    have hy2 : YieldsIf P ops (fun w' => w' = w) o v a := hy1.of_same (execOp_put o (hs o · · (hm o List.mem_cons_self)) a o.dst v hd).symm (wanted_put o a o.dst v hd).symm
    unfold wpList
    rcases hy2 with ⟨hw, hv⟩ | ⟨hw, rfl⟩
    · simp only [hw, if_true, Oper.wp, hv w rfl, Oper.upon]; exact .inl ih
    · simp only [hw, Bool.false_eq_true, if_false]; exact ih
  | [], [], _, _, _, _, h => h
  | _ :: _, [], _, _, _, _, h => h
  | _ :: _, none :: _, _, _, hc, _, _ => by simp [okSeq] at hc
  | [], _ :: _, _, _, hc, _, _ => by simp [okSeq] at hc

/-- THE BEGINNING of a region in the order of its text. -/
theorem plainL {id : Nat} {a : Act} {w : World} {l : List Oper} (T : List (Option Value)) (hs : Region.noSelect l.toArray = true) (hok : okSeq l.toArray l T = true) (hY : YL P l.toArray (fun w' => w' = w) (putL l T a) l T)
    (h : wpList P l.toArray Q (l.drop T.length) (putL l T a) w) : (Code.region id l.toArray false).wp P Q a w := by
  refine wp_region_lit ?_
  refine seq_takes ?_ l T a (fun o ho => by simpa using ho) hok hY h
  intro o cs b ho
  obtain ⟨j, hj⟩ := Array.getElem?_of_mem ho
  exact Region.noSelect_spec hs j o cs b hj

/-! ### what yields -/
section
variable {o : Oper} {a : Act} {x : Operand}

theorem wn {y : Nat → Option Bool} (h : o.guard = none) : Region.wanted o y = true := by simp [Region.wanted, h]
theorem y_of (hw : Region.wanted o (yielded ops a.tmps) = true) {v : Value} (h : ∀ w, S w → (execOp a.eval o).run P w = .ok (.value v) w) : YieldsIf P ops S o v a := .inl ⟨hw, h⟩
theorem y_off (hw : Region.wanted o (yielded ops a.tmps) = false) : YieldsIf P ops S o undef a := .inr ⟨hw, rfl⟩
theorem y_move {v : Value} (hw : Region.wanted o (yielded ops a.tmps) = true) (ho : o.op = .move x) (hv : a.eval x = v) : YieldsIf P ops S o v a :=
  y_of hw fun w _ => by unfold execOp; rw [ho, ← hv]; rfl
theorem y_assign {v : Value} (hw : Region.wanted o (yielded ops a.tmps) = true) (ho : o.op = .assign x) (hv : a.eval x = v) : YieldsIf P ops S o v a :=
  y_of hw fun w _ => by unfold execOp; rw [ho, ← hv]; rfl

/-- the address of a field -/
theorem y_field {s f b off : Nat} {fs : Array Field} {fd : Field} (n o' : Nat) (hw : Region.wanted o (yielded ops a.tmps) = true) (ho : o.op = .fieldAddr s x f) (hx : a.eval x = .pointer (some ⟨b, o', none⟩))
    (hu : P.underlying s = some (.struct fs)) (hf : fs[f]? = some fd) (hz : (P.info? fd.type).map (·.size) = some (n + 1)) (hoff : o' + fd.offset = off) : YieldsIf P ops S o (.pointer (some ⟨b, off, none⟩)) a := hoff ▸
  y_of hw fun w _ => by
    cases hq : P.info? fd.type with
    | none => simp [hq] at hz
    | some i =>
      have hs : i.size = n + 1 := by simpa [hq] using hz
      unfold execOp
      simp only [ho, hx, Instr.fieldAt, Instr.sureAddr, Sem.run_bind, run_underlying hu, Result.andThen_ok, hf, Sem.run_pure, fieldPlace, sizeOf, typeInfo, run_program, hq, hs, Nat.add_eq_zero_iff, Nat.succ_ne_self, and_false, if_false, Addr.add_lit]
/-- a pointer that is not nil -/
theorem y_nil {p : Addr} (hw : Region.wanted o (yielded ops a.tmps) = true) (ho : o.op = .nilCheck x) (hx : a.eval x = .pointer (some p)) : YieldsIf P ops S o (.pointer (some p)) a :=
  y_of hw fun w _ => by unfold execOp; simp only [ho, hx]; rfl
/-- a load of one cell -/
theorem y_load {ty : Nat} {v : Value} (b o' : Nat) (hw : Region.wanted o (yielded ops a.tmps) = true) (ho : o.op = .load ty x) (hx : a.eval x = .pointer (some ⟨b, o', none⟩))
    (hg : ∀ w, (isAgg ty).run P w = .ok false w) (hS : ∀ w, S w → w.cell? ⟨b, o', none⟩ = some v) : YieldsIf P ops S o v a :=
  y_of hw fun w h => by
    have h' := hS w h
    unfold execOp
    simp [ho, hx, Instr.loadAt, Instr.sureAddr, Sem.run_bind, loadVar, hg, h']
/-- a load of many cells -/
theorem y_loadm {ty : Nat} {cs : List Value} {d : TypeDesc} (b o' : Nat) (hw : Region.wanted o (yielded ops a.tmps) = true) (ho : o.op = .load ty x) (hx : a.eval x = .pointer (some ⟨b, o', none⟩))
    (hS : ∀ w, S w → w.rangeAt b o' cs) (hu : P.underlying ty = some d) (hd : d.isRow = true) (hi : (P.info? ty).map (·.size) = some cs.length) : YieldsIf P ops S o (.agg cs.toArray) a :=
  yieldsIf_load_mid hw ty x ho b o' hx cs d hS hu hd hi
/-- a struct or an array built -/
theorem y_build {t : TypeId} {parts : Array (Nat × Operand)} {vs : List (Nat × Value)} {cells : Array Value} (h : P.built t vs = some cells) (hw : Region.wanted o (yielded ops a.tmps) = true) (ho : o.op = .build t parts)
    (hp : (parts.map fun (i, x) => (i, a.eval x)).toList = vs) : YieldsIf P ops S o (.agg cells) a :=
  y_of hw fun w _ => by
    unfold execOp
    subst hp
    simp only [ho, Sem.run_bind, run_build w t _ cells h, Result.andThen_ok, Sem.run_pure]
/-- 'x || y', 'x && y' put together -/
theorem y_pick {c u v : Operand} {z : Value} (t : Bool) (hw : Region.wanted o (yielded ops a.tmps) = true) (ho : o.op = .pick c u v) (hc : a.eval c = .bool t) (hz : (if t then a.eval u else a.eval v) = z) : YieldsIf P ops S o z a := hz ▸
  y_of hw fun w _ => by
    unfold execOp
    simp only [ho, hc, asBool, Sem.run_bind, Sem.run_pure, Result.andThen_ok]
theorem y_not {t : Bool} {ty : TypeId} (hw : Region.wanted o (yielded ops a.tmps) = true) (ho : o.op = .unOp .not ty x) (hc : a.eval x = .bool t) : YieldsIf P ops S o (.bool (!t)) a :=
  y_of hw fun w _ => by
    unfold execOp
    simp only [ho, hc]
    simp [go_sem]
theorem y_bin {op : BinOp} {t t' : TypeId} {y : Operand} {v : Value} (hw : Region.wanted o (yielded ops a.tmps) = true) (ho : o.op = .binOp op t x y t')
    (h : ∀ w, (do eqGuard op t x y (a.eval x) (a.eval y); binOp op t (a.eval x) (a.eval y) : Sem Value).run P w = .ok v w) : YieldsIf P ops S o v a :=
  y_of hw fun w _ => by
    unfold execOp
    simp only [ho]
    rw [Sem.run_bind, h w]; rfl
/-- a call of a Go function -/
theorem wp_call {f : FuncId} {xs : Array Operand} {ats : Array TypeId} {vs : Array Value} {w : World} {K : Act → World → Prop} (ho : o.op = .call { callee := .value (.func f), args := xs, argTypes := ats })
    (hv : xs.map a.eval = vs) (hc : ∀ w, (callFunc f vs).run P w = .ok (.enter f vs) w)
    (h : Calls P f vs w fun e w' => ∃ v, e = .returned v ∧ K (a.put o.dst v) w') : o.wp P a w K Q := by
  unfold Oper.wp execOp
  simp only [ho, resolve, hv, Act.eval, Deferred.ofValue, Sem.run_bind, Sem.run_pure, Result.andThen_ok, invoke, Array.append_empty, Array.empty_append, hc]
  refine Calls.mono h ?_
  rintro e w' ⟨v, rfl, hk⟩
  exact hk
/-- '[]T{..}' -/
theorem wp_buildSlice {t : TypeId} {len : Nat} {parts : Array (Nat × Operand)} {vs : Array (Nat × Value)} {v : Value} {w w' : World} {K : Act → World → Prop} (ho : o.op = .buildSlice t len parts)
    (hp : (parts.map fun (i, x) => (i, a.eval x)) = vs) (hr : (Instr.buildSlice t len vs).run P w = .ok v w') (h : K (a.put o.dst v) w') : o.wp P a w K Q := by
  unfold Oper.wp execOp
  simp only [ho, hp, Sem.run_bind, hr, Result.andThen_ok, Sem.run_pure]
  exact h
/-- '&T{..}' -/
theorem wp_box {t : TypeId} {c : Array Value} {w : World} {K : Act → World → Prop} (ho : o.op = .box t x) (hx : (a.eval x).cells = c)
    (h : K (a.put o.dst (.pointer (some ⟨w.heap.size, 0, none⟩))) (w.alloc (.cells c t))) : o.wp P a w K Q := by
  unfold Oper.wp execOp
  simp only [ho, Instr.box, newVar, newRow, hx, Sem.run_bind]
  simp only [go_sem, Sem.run_pure, Result.andThen_ok]
  exact h
/-- the whole of a variable stored into the middle of a block -/
theorem wp_storem {ty : TypeId} {y : Operand} {cs : List Value} {w : World} {K : Act → World → Prop} (b o' : Nat) (ho : o.op = .store ty x y) (hx : a.eval x = .pointer (some ⟨b, o', none⟩)) (hy : a.eval y = .agg cs.toArray)
    (ht : w.there b o' cs.length) (hi : (P.info? ty).map (·.size) = some cs.length) (h1 : ∀ v ∈ cs, v.oneCell' = true)
    (h : K (a.put o.dst undef) (w.setCells b o' cs)) : o.wp P a w K Q :=
  wp_store_mid ty x y ho b o' cs.toArray hx hy (by simpa using ht) (by simpa using hi) (all_oneCell_toArray h1) (by simpa using h)
/-- the whole of a variable stored into the block that was made last -/
theorem wp_store_new {t : TypeId} {y : Operand} {z : Array Value} {cs : List Value} {w : World} {K : Act → World → Prop} (ho : o.op = .store t x y) (hx : a.eval x = .pointer (some ⟨w.heap.size, 0, none⟩)) (hy : a.eval y = .agg cs.toArray)
    (hi : (P.info? t).map (·.size) = some cs.length) (hz : z.size = cs.length) (h1 : ∀ v ∈ cs, v.oneCell' = true) (h : K (a.put o.dst undef) (w.alloc (.cells cs.toArray t)).drew) : o.wp P a (w.alloc (.cells z t)).drew K Q := by
  have e : ∀ o, (w.alloc o).drew = w.drew.alloc o := fun _ => rfl
  have hr := run_storeAt_new (P := P) w.drew t z cs.toArray (by simpa using hi) (by simpa using hz) (all_oneCell_toArray h1)
  rw [e] at h ⊢
  unfold Oper.wp execOp
  simp only [ho, hx, hy, Sem.run_bind]
  have hs : w.drew.heap.size = w.heap.size := rfl
  rw [hs] at hr
  simp only [hr, Result.andThen_ok, Sem.run_pure]
  exact h
end
end
end Go.Proofs.Ybulkcsck.Rt
