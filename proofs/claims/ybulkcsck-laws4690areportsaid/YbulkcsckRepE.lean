/-
  OWN TEXT. LawS4690AReport: zzs4690aeq, where it says yes.
-/
import Derived.Test.YbulkcsckRepD
namespace Go.Proofs.Ybulkcsck
open Go.RowKit

attribute [local go_sem] St.g0 St.g1 St.g2 St.g3 St.g4 St.g5 St.g6 St.g7 St.g8

/-- alike but for where the signatures lie -/
structure QAlike (q r : Qc) : Prop where
  st : q.st = r.st
  ep : q.ep = r.ep
  vw : q.vw = r.vw
  bl : q.bl = r.bl
  sn : q.sn = r.sn
structure SAlike (s o : St) : Prop where
  ep : s.ep = o.ep
  ecEp : s.ecEp = o.ecEp
  en : s.en = o.en
  vw : s.vw = o.vw
  ws : s.ws = o.ws
  lv : s.lv = o.lv
  v0 : s.v0 = o.v0
  v1 : s.v1 = o.v1
  v2 : s.v2 = o.v2
  lk : QAlike s.lk o.lk
  ld : s.ld = o.ld
  hq : QAlike s.hq o.hq
  tp : s.tp = o.tp

theorem qceqB_alike {q r : Qc} (h : QAlike q r) : qceqB q r = true := by
  simp [qceqB, h.st, h.ep, h.vw, h.bl, h.sn]

set_option maxRecDepth 100000 in
set_option maxHeartbeats 1000000 in
theorem aeq_yes (s o : St) (w : World) (hs : s.Ok) (ho : o.Ok) (hso : SAlike s o) :
    Calls Yba.prog 9 #[.agg s.L.toArray, .agg o.L.toArray] w fun e w' => e = .returned (.bool true) ∧ Below w.heap.size w w' := by
  have t0 : Hid (Two w s.L o.L ((w.alloc (.cells s.L.toArray 34)).alloc (.cells o.L.toArray 34))) := Two.start w s.L o.L 34
  have R1 : Hid (((w.alloc (.cells s.L.toArray 34)).alloc (.cells o.L.toArray 34)).rangeAt w.heap.size 9 s.lk.L) := by have := s.rlk t0.out.1; rw [Nat.zero_add] at this; exact this
  have R2 : Hid (((w.alloc (.cells s.L.toArray 34)).alloc (.cells o.L.toArray 34)).rangeAt (w.heap.size + 1) 9 o.lk.L) := by have := o.rlk t0.out.2.1; rw [Nat.zero_add] at this; exact this
  have E22 : ∀ w, (binOp .eql 22 (.agg #[.bool s.v0, .bool s.v1, .bool s.v2]) (.agg #[.bool o.v0, .bool o.v1, .bool o.v2])).run Yba.prog w = .ok (.bool true) w := fun w => by
    rw [eq22, hso.v0, hso.v1, hso.v2]; simp
  have k1 : (s.ep == o.ep) = true := by simp [hso.ep]
  have k2 : (s.ecEp == o.ecEp) = true := by simp [hso.ecEp]
  have k3 : ((s.en : Int) == (o.en : Int)) = true := by simp [hso.en]
  have k4 : (s.vw == o.vw) = true := by simp [hso.vw]
  have k5 : (s.ws == o.ws) = true := by simp [hso.ws]
  have k6 : (s.lv == o.lv) = true := by simp [hso.lv]
  have k7 : (s.ld == o.ld) = true := by simp [hso.ld]
  go_enter Yba.func9, Yba.ntmps9
  go_wp2_with (first
    | ((with_reducible refine ld32 s.lk hs.lk w.heap.size 9 ?_ ?_ ?_ ?_); rfl; rfl; exact R1.out)
    | ((with_reducible refine ld32 o.lk ho.lk (w.heap.size + 1) 9 ?_ ?_ ?_ ?_); rfl; rfl; exact R2.out))
  refine (qceq_any s.lk o.lk _ hs.lk ho.lk).mono ?_
  rintro e w1 ⟨rfl, hb1⟩
  rw [qceqB_alike hso.lk]
  have t1 : Hid (Two w s.L o.L w1) := t0.out.step hb1
  clear hb1 t0 R1 R2
  have c1 : w1.cell? ⟨w.heap.size, 45, none⟩ = some (.bool s.ld) := by have := s.rld hs t1.out.1; rw [Nat.zero_add] at this; exact this
  have c2 : w1.cell? ⟨w.heap.size + 1, 45, none⟩ = some (.bool o.ld) := by have := o.rld ho t1.out.2.1; rw [Nat.zero_add] at this; exact this
  have R1 : Hid (w1.rangeAt w.heap.size 46 s.hq.L) := by have := s.rhq hs t1.out.1; rw [Nat.zero_add] at this; exact this
  have R2 : Hid (w1.rangeAt (w.heap.size + 1) 46 o.hq.L) := by have := o.rhq ho t1.out.2.1; rw [Nat.zero_add] at this; exact this
  go_wp2_with (first
    | ((with_reducible refine ld32 s.hq hs.hq w.heap.size 46 ?_ ?_ ?_ ?_); rfl; rfl; exact R1.out)
    | ((with_reducible refine ld32 o.hq ho.hq (w.heap.size + 1) 46 ?_ ?_ ?_ ?_); rfl; rfl; exact R2.out))
  refine (qceq_any s.hq o.hq _ hs.hq ho.hq).mono ?_
  rintro e w2 ⟨rfl, hb2⟩
  rw [qceqB_alike hso.hq]
  have t2 : Hid (Two w s.L o.L w2) := t1.out.step hb2
  clear hb2 t1 R1 R2 c1 c2
  have R1 : Hid (w2.rangeAt w.heap.size 82 (bytesV s.tp)) := by have := s.rtp hs t2.out.1; rw [Nat.zero_add] at this; exact this
  have R2 : Hid (w2.rangeAt (w.heap.size + 1) 82 (bytesV o.tp)) := by have := o.rtp ho t2.out.2.1; rw [Nat.zero_add] at this; exact this
  have E : ∀ w, (binOp .eql 30 (.agg (bytesV s.tp).toArray) (.agg (bytesV o.tp).toArray)).run Yba.prog w = .ok (.bool true) w := fun w => by
    rw [eq30 s.tp o.tp hs.tp ho.tp, hso.tp]; simp
  go_wp2_with (first
    | ((with_reducible refine ld30 s.tp hs.tp w.heap.size 82 ?_ ?_ ?_ ?_); rfl; rfl; exact R1.out)
    | ((with_reducible refine ld30 o.tp ho.tp (w.heap.size + 1) 82 ?_ ?_ ?_ ?_); rfl; rfl; exact R2.out))
  go_ret
  exact ⟨rfl, t2.out.2.2.2⟩
end Go.Proofs.Ybulkcsck
