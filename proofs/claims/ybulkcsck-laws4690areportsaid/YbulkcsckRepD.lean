/-
  OWN TEXT. LawS4690AReport: a State's cells; State.same.
-/
import Derived.Test.YbulkcsckRepC
namespace Go.Proofs.Ybulkcsck
open Go.RowKit

structure St where
  ep : Int
  ecEp : Int
  ea : Option Addr
  en : Nat
  ec : Nat
  vw : Int
  ws : Int
  lv : Bool
  v0 : Bool
  v1 : Bool
  v2 : Bool
  lk : Qc
  ld : Bool
  hq : Qc
  tp : List Int

def St.L (s : St) : List Value :=
  .int .i64 s.ep :: .int .i64 s.ecEp :: .slice s.ea s.en s.ec :: .int .i64 s.vw :: .int .i64 s.ws :: .bool s.lv :: .bool s.v0 :: .bool s.v1 :: .bool s.v2 ::
    (s.lk.L ++ (.bool s.ld :: (s.hq.L ++ bytesV s.tp)))
structure St.Ok (s : St) : Prop where
  lk : s.lk.bl.length = 32
  hq : s.hq.bl.length = 32
  tp : s.tp.length = 32

theorem St.len (s : St) (h : s.Ok) : s.L.length = 114 := by
  have h1 := s.lk.len h.lk
  have h2 := s.hq.len h.hq
  have h3 := bytesV_length s.tp
  have h4 := h.tp
  simp only [St.L, List.length_cons, List.length_append]
  omega
theorem St.g0 (s : St) : s.L[0]? = some (.int .i64 s.ep) := rfl
theorem St.g1 (s : St) : s.L[1]? = some (.int .i64 s.ecEp) := rfl
theorem St.g2 (s : St) : s.L[2]? = some (.slice s.ea s.en s.ec) := rfl
theorem St.g3 (s : St) : s.L[3]? = some (.int .i64 s.vw) := rfl
theorem St.g4 (s : St) : s.L[4]? = some (.int .i64 s.ws) := rfl
theorem St.g5 (s : St) : s.L[5]? = some (.bool s.lv) := rfl
theorem St.g6 (s : St) : s.L[6]? = some (.bool s.v0) := rfl
theorem St.g7 (s : St) : s.L[7]? = some (.bool s.v1) := rfl
theorem St.g8 (s : St) : s.L[8]? = some (.bool s.v2) := rfl
theorem St.parts (s : St) : s.L = [.int .i64 s.ep, .int .i64 s.ecEp, .slice s.ea s.en s.ec, .int .i64 s.vw, .int .i64 s.ws, .bool s.lv, .bool s.v0, .bool s.v1, .bool s.v2] ++ (s.lk.L ++ ([.bool s.ld] ++ (s.hq.L ++ bytesV s.tp))) := rfl
/-- its lock, its 'locked', its high QC and its tip where it lies in memory -/
theorem St.rlk (s : St) {w : World} {b o : Nat} (h : w.rangeAt b o s.L) : w.rangeAt b (o + 9) s.lk.L := by
  rw [St.parts] at h
  exact rangeAt_part h (o + 9) rfl
theorem St.rld (s : St) {w : World} {b o : Nat} (hok : s.Ok) (h : w.rangeAt b o s.L) : w.cell? ⟨b, o + 45, none⟩ = some (.bool s.ld) := by
  rw [St.parts, ← List.append_assoc] at h
  have := rangeAt_part h (o + 45) (by rw [List.length_append, s.lk.len hok.lk]; rfl)
  exact this 0 _ rfl
theorem St.rhq (s : St) {w : World} {b o : Nat} (hok : s.Ok) (h : w.rangeAt b o s.L) : w.rangeAt b (o + 46) s.hq.L := by
  rw [St.parts, ← List.append_assoc, ← List.append_assoc] at h
  exact rangeAt_part h (o + 46) (by rw [List.length_append, List.length_append, s.lk.len hok.lk]; rfl)
theorem St.rtp (s : St) {w : World} {b o : Nat} (hok : s.Ok) (h : w.rangeAt b o s.L) : w.rangeAt b (o + 82) (bytesV s.tp) := by
  rw [St.parts, ← List.append_assoc, ← List.append_assoc, ← List.append_assoc, ← List.append_nil (bytesV s.tp)] at h
  exact rangeAt_part h (o + 82) (by rw [List.length_append, List.length_append, List.length_append, s.lk.len hok.lk, s.hq.len hok.hq]; rfl)

theorem sz34 {s : St} (h : s.Ok) : (Yba.prog.info? 34).map (·.size) = some s.L.length := by rw [s.len h, inf34]
section
variable {ops : Array Oper} {rest : List Oper} {dst : Option Tmp} {x : Operand} {ty' : TypeId} {pos : String} {after : Array Edge} {g : Option (Nat × Bool)} {a : Act} {w : World} {Q : Exit → Act → World → Prop}
theorem ld34 (s : St) (hn : s.Ok) (b o : Nat)
    (hw : Region.wanted { dst := dst, op := .load 34 x, type := ty', pos := pos, after := after, guard := g } (yielded ops a.tmps) = true)
    (hx : a.eval x = .pointer (some ⟨b, o, none⟩)) (hc : w.rangeAt b o s.L)
    (h : wpList Yba.prog ops Q rest (a.put dst (.agg s.L.toArray)) w) :
    wpList Yba.prog ops Q ({ dst := dst, op := .load 34 x, type := ty', pos := pos, after := after, guard := g } :: rest) a w :=
  ldm s.L b o _ hw hx hc Yba.underlying34 rfl (sz34 hn) h
end

theorem cells4 : Yba.prog.cellsOf 4 = 1 := by kernel_rfl
theorem eq22 (a b c a' b' c' : Bool) (w : World) : (binOp .eql 22 (.agg #[.bool a, .bool b, .bool c]) (.agg #[.bool a', .bool b', .bool c'])).run Yba.prog w = .ok (.bool (a == a' && b == b' && c == c')) w := by
  have h2 := run_equalIn_array (P := Yba.prog) (i := Yba.t4) w 9999 #[.bool a, .bool b, .bool c] #[.bool a', .bool b', .bool c'] Yba.underlying22 (by kernel_rfl)
  rw [cells4] at h2
  simp only [binOp, Op.equal, Op.maxDepth, Sem.run_bind, h2, Sem.run_pure]
  cases a <;> cases b <;> cases c <;> cases a' <;> cases b' <;> cases c' <;> simp [Op.eqItems, List.range_succ, part, Yba.isAgg4, run_equalIn_bool' w 9998 4 _ _ Yba.underlying4]

attribute [local go_sem] St.g0 St.g1 St.g2 St.g3 St.g4 St.g5 St.g6 St.g7 St.g8

def sameB (s o : St) : Bool :=
  s.ep == o.ep && s.vw == o.vw && s.ws == o.ws && s.lv == o.lv && (s.v0 == o.v0 && s.v1 == o.v1 && s.v2 == o.v2) && namesB s.lk o.lk && s.ld == o.ld && namesB s.hq o.hq && s.tp == o.tp

set_option maxRecDepth 100000 in
set_option maxHeartbeats 1000000 in
theorem same_any (s o : St) (w : World) (hs : s.Ok) (ho : o.Ok) :
    Calls Yba.prog 18 #[.agg s.L.toArray, .agg o.L.toArray] w fun e w' => e = .returned (.bool (sameB s o)) ∧ Below w.heap.size w w' := by
  have t0 : Hid (Two w s.L o.L ((w.alloc (.cells s.L.toArray 34)).alloc (.cells o.L.toArray 34))) := Two.start w s.L o.L 34
  have R1 : Hid (((w.alloc (.cells s.L.toArray 34)).alloc (.cells o.L.toArray 34)).rangeAt w.heap.size 9 s.lk.L) := by have := s.rlk t0.out.1; rw [Nat.zero_add] at this; exact this
  have R2 : Hid (((w.alloc (.cells s.L.toArray 34)).alloc (.cells o.L.toArray 34)).rangeAt (w.heap.size + 1) 9 o.lk.L) := by have := o.rlk t0.out.2.1; rw [Nat.zero_add] at this; exact this
  have E22 := eq22 s.v0 s.v1 s.v2 o.v0 o.v1 o.v2
  go_enter Yba.func18, Yba.ntmps18
  go_wp2_with (first
    | ((with_reducible refine ld32 s.lk hs.lk w.heap.size 9 ?_ ?_ ?_ ?_); rfl; rfl; exact R1.out)
    | ((with_reducible refine ld32 o.lk ho.lk (w.heap.size + 1) 9 ?_ ?_ ?_ ?_); rfl; rfl; exact R2.out))
  rotate_left
  iterate 5 (go_ret; exact ⟨by simp [sameB, *], t0.out.2.2.2⟩)
  refine (names_any s.lk o.lk _ hs.lk ho.lk).mono ?_
  rintro e w1 ⟨rfl, hb1⟩
  have t1 : Hid (Two w s.L o.L w1) := t0.out.step hb1
  clear hb1 t0 R1 R2
  by_cases hn : namesB s.lk o.lk = true
  · have c1 : w1.cell? ⟨w.heap.size, 45, none⟩ = some (.bool s.ld) := by have := s.rld hs t1.out.1; rw [Nat.zero_add] at this; exact this
    have c2 : w1.cell? ⟨w.heap.size + 1, 45, none⟩ = some (.bool o.ld) := by have := o.rld ho t1.out.2.1; rw [Nat.zero_add] at this; exact this
    have R1 : Hid (w1.rangeAt w.heap.size 46 s.hq.L) := by have := s.rhq hs t1.out.1; rw [Nat.zero_add] at this; exact this
    have R2 : Hid (w1.rangeAt (w.heap.size + 1) 46 o.hq.L) := by have := o.rhq ho t1.out.2.1; rw [Nat.zero_add] at this; exact this
    go_wp2_with (first
      | ((with_reducible refine ld32 s.hq hs.hq w.heap.size 46 ?_ ?_ ?_ ?_); rfl; rfl; exact R1.out)
      | ((with_reducible refine ld32 o.hq ho.hq (w.heap.size + 1) 46 ?_ ?_ ?_ ?_); rfl; rfl; exact R2.out))
    · refine (names_any s.hq o.hq _ hs.hq ho.hq).mono ?_
      rintro e w2 ⟨rfl, hb2⟩
      have t2 : Hid (Two w s.L o.L w2) := t1.out.step hb2
      clear hb2 t1 R1 R2 c1 c2
      by_cases hm : namesB s.hq o.hq = true
      · have R1 : Hid (w2.rangeAt w.heap.size 82 (bytesV s.tp)) := by have := s.rtp hs t2.out.1; rw [Nat.zero_add] at this; exact this
        have R2 : Hid (w2.rangeAt (w.heap.size + 1) 82 (bytesV o.tp)) := by have := o.rtp ho t2.out.2.1; rw [Nat.zero_add] at this; exact this
        have E := eq30 s.tp o.tp hs.tp ho.tp
        go_wp2_with (first
          | ((with_reducible refine ld30 s.tp hs.tp w.heap.size 82 ?_ ?_ ?_ ?_); rfl; rfl; exact R1.out)
          | ((with_reducible refine ld30 o.tp ho.tp (w.heap.size + 1) 82 ?_ ?_ ?_ ?_); rfl; rfl; exact R2.out))
        go_ret; exact ⟨by simp [sameB, *], t2.out.2.2.2⟩
      · have hm : namesB s.hq o.hq = false := by simpa using hm
        go_wp2
        go_ret; exact ⟨by simp [sameB, *], t2.out.2.2.2⟩
    · go_ret; exact ⟨by simp [sameB, *], t1.out.2.2.2⟩
  · have hn : namesB s.lk o.lk = false := by simpa using hn
    go_wp2
    go_ret; exact ⟨by simp [sameB, *], t1.out.2.2.2⟩
end Go.Proofs.Ybulkcsck
