/-
  OWN TEXT. More moves in a region that draws its order: two operations that may come up; an array's element's address.
-/
import Derived.Test.YbulkcsckRt
namespace Go.Proofs.Ybulkcsck.Rt
open Go.RowKit
section
variable {P : Program} {ops : Array Oper} {Q : Exit → Act → World → Prop} {md : Region.Mode} {S : World → Prop}
theorem twoL {a : Act} {w : World} {listed : Array Bool} {fuel : Nat} {oi oj : Oper} {l ri rj : List Oper} (i j : Nat) (hr : Region.ready md l.toArray listed = [i, j]) (hi : l.drop i = oi :: ri) (hj : l.drop j = oj :: rj)
    (wi : Region.wanted oi (yielded l.toArray a.tmps) = true) (wj : Region.wanted oj (yielded l.toArray a.tmps) = true)
    (h1 : oi.wp P a w (fun a' w' => S w' ∧ wpAnyH P md l.toArray (np Q) S fuel (listed.setIfInBounds i true) a' w') (np Q))
    (h2 : oj.wp P a w (fun a' w' => S w' ∧ wpAnyH P md l.toArray (np Q) S fuel (listed.setIfInBounds j true) a' w') (np Q)) : wpAnyH P md l.toArray (np Q) S (fuel + 1) listed a w := by
  have gi : l.toArray[i]? = some oi := by
    have : l[i]? = some oi := by rw [← Nat.add_zero i, ← List.getElem?_drop, hi]; rfl
    simpa using this
  have gj : l.toArray[j]? = some oj := by
    have : l[j]? = some oj := by rw [← Nat.add_zero j, ← List.getElem?_drop, hj]; rfl
    simpa using this
  refine wpAnyH_all hr (by simp) ?_
  intro k hk
  simp only [List.mem_cons, List.not_mem_nil, or_false] at hk
  rcases hk with rfl | rfl
  · unfold wpOp
    simp only [gi, wi, if_true]
    exact .inl h1
  · unfold wpOp
    simp only [gj, wj, if_true]
    exact .inl h2
variable {o : Oper} {a : Act} {x : Operand}
theorem y_index {t e b o' n : Nat} {off : Nat} (k : Nat) (hw : Region.wanted o (yielded ops a.tmps) = true) (ho : o.op = .indexAddr t x (.const (.int .i64 k))) (hx : a.eval x = .pointer (some ⟨b, o', none⟩))
    (hu : P.underlying t = some (.array n e)) (hz : ∀ w, (sizeOf e).run P w = .ok 1 w) (hk : k < n) (hoff : o' + k = off) : YieldsIf P ops S o (.pointer (some ⟨b, off, none⟩)) a := hoff ▸
  y_of hw fun w _ => by
    have h1 : (0 : Int) ≤ (k : Int) ∧ (k : Int) < (n : Int) := by omega
    unfold execOp
    simp only [ho, hx, BigFrame.eval_const, Instr.indexAt, asIntOf, Sem.run_bind, Sem.run_pure, Result.andThen_ok, run_underlying hu, Instr.sureAddr, h1, and_self, if_true, hz, Int.toNat_natCast, Nat.mul_one, Addr.add_lit]
end
end Go.Proofs.Ybulkcsck.Rt
