/-
  OWN TEXT. LawS4690AReport: QC.names, zzs4690aqceq.
-/
import Derived.Test.YbulkcsckRepB
namespace Go.Proofs.Ybulkcsck
open Go.RowKit

attribute [local go_sem] Qc.g0 Qc.g1 Qc.g2 Qc.g35

def namesB (q r : Qc) : Bool := qcmp q r == 0 && q.bl == r.bl

set_option maxRecDepth 100000 in
set_option maxHeartbeats 1000000 in
theorem names_any (q r : Qc) (w : World) (hq : q.bl.length = 32) (hr : r.bl.length = 32) :
    Calls Yba.prog 33 #[.agg q.L.toArray, .agg r.L.toArray] w fun e w' => e = .returned (.bool (namesB q r)) ∧ Below w.heap.size w w' := by
  have t0 : Hid (Two w q.L r.L ((w.alloc (.cells q.L.toArray 32)).alloc (.cells r.L.toArray 32))) := Two.start w q.L r.L 32
  have E := eq30 q.bl r.bl hq hr
  have eN : Hid (namesB q r = (qcmp q r == 0 && q.bl == r.bl)) := rfl
  go_enter Yba.func33, Yba.ntmps33
  go_wp2_with (first
    | ((with_reducible refine ld32 q hq w.heap.size 0 ?_ ?_ ?_ ?_); rfl; rfl; exact t0.out.1)
    | ((with_reducible refine ld32 r hr (w.heap.size + 1) 0 ?_ ?_ ?_ ?_); rfl; rfl; exact t0.out.2.1))
  refine (qcompare_any q r _ hq hr).mono ?_
  rintro e w1 ⟨rfl, hb1⟩
  have t1 : Hid (Two w q.L r.L w1) := t0.out.step hb1
  clear hb1 t0
  by_cases hc : (qcmp q r == 0) = true
  · have q1 : Hid (w1.rangeAt w.heap.size 3 (bytesV q.bl)) := Qc.gb q w1 w.heap.size 0 t1.out.1
    have q2 : Hid (w1.rangeAt (w.heap.size + 1) 3 (bytesV r.bl)) := Qc.gb r w1 (w.heap.size + 1) 0 t1.out.2.1
    go_wp2_with (first
      | ((with_reducible refine ld30 q.bl hq w.heap.size 3 ?_ ?_ ?_ ?_); rfl; rfl; exact q1.out)
      | ((with_reducible refine ld30 r.bl hr (w.heap.size + 1) 3 ?_ ?_ ?_ ?_); rfl; rfl; exact q2.out))
    go_ret
    exact ⟨ret_bool (by rw [eN.out, hc, Bool.true_and]), t1.out.2.2.2⟩
  · have hc : (qcmp q r == 0) = false := by simpa using hc
    go_wp2
    go_ret
    exact ⟨ret_bool (by rw [eN.out, hc, Bool.false_and]), t1.out.2.2.2⟩

def qceqB (q r : Qc) : Bool := q.st == r.st && q.ep == r.ep && q.vw == r.vw && q.bl == r.bl && (q.sn : Int) == (r.sn : Int)

set_option maxRecDepth 100000 in
set_option maxHeartbeats 400000 in
theorem qceq_any (q r : Qc) (w : World) (hq : q.bl.length = 32) (hr : r.bl.length = 32) :
    Calls Yba.prog 19 #[.agg q.L.toArray, .agg r.L.toArray] w fun e w' => e = .returned (.bool (qceqB q r)) ∧ Below w.heap.size w w' := by
  have t0 : Hid (Two w q.L r.L ((w.alloc (.cells q.L.toArray 32)).alloc (.cells r.L.toArray 32))) := Two.start w q.L r.L 32
  have R1 : Hid (((w.alloc (.cells q.L.toArray 32)).alloc (.cells r.L.toArray 32)).rangeAt w.heap.size 3 (bytesV q.bl)) := Qc.gb q _ w.heap.size 0 t0.out.1
  have R2 : Hid (((w.alloc (.cells q.L.toArray 32)).alloc (.cells r.L.toArray 32)).rangeAt (w.heap.size + 1) 3 (bytesV r.bl)) := Qc.gb r _ (w.heap.size + 1) 0 t0.out.2.1
  have E := eq30 q.bl r.bl hq hr
  go_enter Yba.func19, Yba.ntmps19
  go_wp2_with (first
    | ((with_reducible refine ld30 q.bl hq w.heap.size 3 ?_ ?_ ?_ ?_); rfl; rfl; exact R1.out)
    | ((with_reducible refine ld30 r.bl hr (w.heap.size + 1) 3 ?_ ?_ ?_ ?_); rfl; rfl; exact R2.out))
  all_goals (go_ret; exact ⟨by simp [qceqB, *], t0.out.2.2.2⟩)
end Go.Proofs.Ybulkcsck
