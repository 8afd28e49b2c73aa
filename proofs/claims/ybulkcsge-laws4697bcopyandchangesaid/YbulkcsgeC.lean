/-
  OWN TEXT. Hook.equal.
-/
import Derived.Test.YbulkcsgeB
import Derived.LaidEql
import Derived.Test.YbulkcsgeRt
import Derived.Deep.CutRange
namespace Go.Proofs.Ybulkcsge
open Go.RowKit

theorem same_yes {v v' : Value} {n n' : Bool} {l l' : List ByteArray} {w : World} (h : SV w v n l) (h' : SV w v' n' l') (hl : l.length ≤ 2000) (hA : n = n' ∧ l = l') :
    Calls Yba.prog 8 #[v, v'] w fun e w' => e = .returned (.bool true) ∧ Below w.heap.size w w' :=
  (same_any v v' n n' l l' w h h' hl).mono fun e w' ⟨r, he, hr, hb⟩ => ⟨by rw [he, hr.2 hA], hb⟩
theorem same_no {v v' : Value} {n n' : Bool} {l l' : List ByteArray} {w : World} (h : SV w v n l) (h' : SV w v' n' l') (hl : l.length ≤ 2000) (hA : ¬ (n = n' ∧ l = l')) :
    Calls Yba.prog 8 #[v, v'] w fun e w' => e = .returned (.bool false) ∧ Below w.heap.size w w' :=
  (same_any v v' n n' l l' w h h' hl).mono fun e w' ⟨r, he, hr, hb⟩ => ⟨by
    cases r
    · exact he
    · exact absurd (hr.1 rfl) hA, hb⟩

/-- a hook's four cells -/
structure Hk (w : World) (b : Nat) (p : ByteArray) (va ve : Value) (tp : Option Addr) : Prop where
  c0 : w.cell? ⟨b, 0, none⟩ = some (.string p)
  c1 : w.cell? ⟨b, 1, none⟩ = some va
  c2 : w.cell? ⟨b, 2, none⟩ = some ve
  c3 : w.cell? ⟨b, 3, none⟩ = some (.pointer tp)
  lt : b < w.heap.size
theorem Hk.below {w w' : World} {b : Nat} {p : ByteArray} {va ve : Value} {tp : Option Addr} (h : Hk w b p va ve tp) (hb : Below w.heap.size w w') : Hk w' b p va ve tp :=
  ⟨(hb.cell (p := ⟨b, 0, none⟩) h.lt).trans h.c0, (hb.cell (p := ⟨b, 1, none⟩) h.lt).trans h.c1, (hb.cell (p := ⟨b, 2, none⟩) h.lt).trans h.c2, (hb.cell (p := ⟨b, 3, none⟩) h.lt).trans h.c3, Nat.lt_of_lt_of_le h.lt hb.size⟩

/-- what a timeout pointer leads to -/
inductive TV (w : World) : Option Addr → Option Int → Prop
  | none : TV w none none
  | some (b o : Nat) (x : Int) (h : w.cell? ⟨b, o, Option.none⟩ = some (.int .i64 x)) (hb : b < w.heap.size) : TV w (some ⟨b, o, Option.none⟩) (some x)
theorem TV.below {w w' : World} {tp : Option Addr} {x : Option Int} (h : TV w tp x) (hb : Below w.heap.size w w') : TV w' tp x := by
  cases h with
  | none => exact .none
  | some b o x h hl => exact .some b o x ((hb.cell (p := ⟨b, o, Option.none⟩) hl).trans h) (Nat.lt_of_lt_of_le hl hb.size)

/-- how '==' on two such pointers goes -/
def PE (w : World) (tp tp' : Option Addr) (c : Bool) : Prop := (c = true → tp = tp') ∧ ∀ w', Below w.heap.size w w' → (binOp .eql 23 (.pointer tp) (.pointer tp')).run Yba.prog w' = .ok (.bool c) w'
theorem PE.below {w w' : World} {tp tp' : Option Addr} {c : Bool} (h : PE w tp tp' c) (hb : Below w.heap.size w w') : PE w' tp tp' c :=
  ⟨h.1, fun w2 h2 => h.2 w2 (hb.trans (h2.mono hb.size))⟩

/-- a call of a function value -/
theorem wp_callv {P : Program} {Q : Exit → Act → World → Prop} {o : Oper} {a : Act} {x : Operand} {f : FuncId} {xs : Array Operand} {ats : Array TypeId} {vs : Array Value} {w : World} {K : Act → World → Prop} (ho : o.op = .call { callee := .value x, args := xs, argTypes := ats })
    (hx : a.eval x = .func (.func f) #[] #[]) (hv : xs.map a.eval = vs) (hc : ∀ w, (callFunc f vs).run P w = .ok (.enter f vs) w)
    (h : Calls P f vs w fun e w' => ∃ v, e = .returned v ∧ K (a.put o.dst v) w') : o.wp P a w K Q := by
  unfold Oper.wp execOp
  simp only [ho, resolve, hv, hx, Deferred.ofValue, Sem.run_bind, Sem.run_pure, Result.andThen_ok, invoke, Array.append_empty, Array.empty_append, hc]
  refine Calls.mono h ?_
  rintro e w' ⟨v, rfl, hk⟩
  exact hk
theorem eqSelf {a : Act} {x y : Operand} (p : ByteArray) (w : World) (hx : a.eval x = .string p := by kernel_rfl) (hy : a.eval y = .string p := by kernel_rfl) : (do eqGuard .eql 9 x y (a.eval x) (a.eval y); binOp .eql 9 (a.eval x) (a.eval y) : Sem Value).run Yba.prog w = .ok (.bool true) w := by
  rw [hx, hy]
  simp [go_sem]
/-- what the two hooks' cells hold -/
structure Six (wc : World) (b b' : Nat) (p p' : ByteArray) (va va' ve ve' : Value) (w2 : World) : Prop where
  c0 : w2.cell? ⟨b, 0, none⟩ = some (.string p)
  d0 : w2.cell? ⟨b', 0, none⟩ = some (.string p')
  c1 : w2.cell? ⟨b, 1, none⟩ = some va
  d1 : w2.cell? ⟨b', 1, none⟩ = some va'
  c2 : w2.cell? ⟨b, 2, none⟩ = some ve
  d2 : w2.cell? ⟨b', 2, none⟩ = some ve'
  bl : Below wc.heap.size wc w2

end Go.Proofs.Ybulkcsge
