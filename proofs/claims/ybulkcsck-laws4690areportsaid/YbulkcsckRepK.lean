/-
  OWN TEXT. LawS4690AReport: rep as it ends; the replica's cells; the plain law.
-/
import Derived.Test.YbulkcsckRepI
import Derived.Test.YbulkcsckRepBits
import Derived.Test.YbulkcsckRt2
namespace Go.Proofs.Ybulkcsck
open Go.RowKit

theorem bu28 (x : Int) : Yba.prog.built 28 [(0, .int .i64 x)] = some #[.int .i64 x, .slice none 0 0] := by kernel_rfl
theorem bu30 (x : Int) : Yba.prog.built 30 [(0, .int .u8 x)] = some (bytesV (x :: z31)).toArray := by kernel_rfl
theorem bu32 (a b c x : Int) : Yba.prog.built 32 [(0, .int .i64 a), (1, .int .i64 b), (2, .int .i64 c), (3, .agg (bytesV (x :: z31)).toArray)] =
    some (Qc.L { st := a, ep := b, vw := c, bl := x :: z31, sa := none, sn := 0, sc := 0 }).toArray := by kernel_rfl
theorem bu41 (a b c e : Bool) : Yba.prog.built 41 [(0, .bool a), (1, .bool b), (2, .bool c), (3, .bool e)] = some #[.bool a, .bool b, .bool c, .bool e] := by kernel_rfl

/-- rep at last: with or without signatures -/
def repF (d : Dt) (m : Int) (sa : Option Addr) (sn sc : Nat) : St :=
  { repS d m 19 with ea := sa, en := sn, ec := sc, lk := { (repS d m 19).lk with sa := sa, sn := sn, sc := sc }, hq := { (repS d m 19).hq with sa := sa, sn := sn, sc := sc } }
theorem repF_ok (d : Dt) (m : Int) (sa : Option Addr) (sn sc : Nat) : (repF d m sa sn sc).Ok := ⟨rfl, rfl, rfl⟩

def tip0 : List Value := [.int .i64 0, .int .i64 0, .int .i64 0] ++ (bytesV (0 :: z31) ++ [.string ByteArray.empty])
def tipL (x : Int) : List Value := tip0 ++ (bytesV (x :: z31) ++ [])
theorem bu44 (x : Int) : Yba.prog.built 44 [(5, .agg (bytesV (x :: z31)).toArray)] = some (tipL x).toArray := by kernel_rfl

def rp0 (d : Dt) : List Value := [.int .i64 0, .int .i64 0, .int .i64 0, .nilIface, .nilFunc, .nilIface, .int .i64 0, .int .i64 d.ep, .int .i64 d.ece, .slice none 0 0, .int .i64 d.vw, .int .i64 d.ws, .bool d.lv, .map none, .pointer none, .map none]
def rp3 (d : Dt) (tb : Nat) : List Value := [.bool d.ld, .map none, .pointer (some ⟨tb, 0, none⟩), .pointer none]
def rp4 (b : Bool) : List Value := [.bool b]
def rp5 : List Value := [.pointer none, .pointer none, .pointer none, .pointer none, .pointer none, .map none, .slice none 0 0, .int .i64 0, .map none, .slice none 0 0, .map none, .slice none 0 0, .map none, .slice none 0 0, .slice none 0 0, .slice none 0 0, .slice none 0 0, .pointer none, .bool false]
def rpL (d : Dt) (m : Int) (tb : Nat) (b : Bool) (rep : St) : List Value :=
  rp0 d ++ ((repS d m 0).hq.L ++ ((repS d m 0).lk.L ++ (rp3 d tb ++ (rp4 b ++ ([.bool d.v0, .bool d.v1, .bool d.v2] ++ (rp5 ++ (rep.L ++ [])))))))
theorem bu72 (d : Dt) (m : Int) (tb : Nat) (b : Bool) (sa : Option Addr) (sn sc : Nat) : Yba.prog.built 72 [(4, .int .i64 d.ep), (5, .agg #[.int .i64 d.ece, .slice none 0 0]), (6, .int .i64 d.vw), (7, .int .i64 d.ws), (8, .bool d.lv), (18, .agg #[.bool b, .bool d.v0, .bool d.v1, .bool d.v2]),
    (13, .agg (repS d m 0).lk.L.toArray), (14, .bool d.ld), (12, .agg (repS d m 0).hq.L.toArray), (16, .pointer (some ⟨tb, 0, none⟩)), (30, .agg (repF d m sa sn sc).L.toArray)] = some (rpL d m tb b (repF d m sa sn sc)).toArray := by kernel_rfl

section
variable {d : Dt} {m : Int} {tb rb : Nat} {b : Bool} {rep : St} {w : World}
theorem rp_range (h : w.rangeAt rb 0 (rpL d m tb b rep)) : w.rangeAt rb 115 rep.L := by
  have h' : w.rangeAt rb 0 ((rp0 d ++ ((repS d m 0).hq.L ++ ((repS d m 0).lk.L ++ (rp3 d tb ++ (rp4 b ++ ([.bool d.v0, .bool d.v1, .bool d.v2] ++ rp5)))))) ++ (rep.L ++ [])) := by
    have e : (rp0 d ++ ((repS d m 0).hq.L ++ ((repS d m 0).lk.L ++ (rp3 d tb ++ (rp4 b ++ ([.bool d.v0, .bool d.v1, .bool d.v2] ++ rp5)))))) ++ (rep.L ++ []) = rpL d m tb b rep := by simp only [rpL, List.append_assoc]
    rw [e]; exact h
  exact rangeAt_part h' 115 (by kernel_rfl)
theorem rp_at (h : w.rangeAt rb 0 (rpL d m tb b rep)) (ht : w.rangeAt tb 0 (tipL d.tp)) : RepAt rb tb (repS d m 0) w := by
  have e16 : w.rangeAt rb 16 (repS d m 0).hq.L := rangeAt_part h 16 rfl
  have h2 : w.rangeAt rb 0 ((rp0 d ++ (repS d m 0).hq.L) ++ ((repS d m 0).lk.L ++ (rp3 d tb ++ (rp4 b ++ ([.bool d.v0, .bool d.v1, .bool d.v2] ++ (rp5 ++ (rep.L ++ []))))))) := by
    rw [List.append_assoc]; exact h
  have e52 : w.rangeAt rb 52 (repS d m 0).lk.L := rangeAt_part h2 52 rfl
  have h3 : w.rangeAt rb 0 (((rp0 d ++ (repS d m 0).hq.L) ++ (repS d m 0).lk.L) ++ (rp3 d tb ++ (rp4 b ++ ([.bool d.v0, .bool d.v1, .bool d.v2] ++ (rp5 ++ (rep.L ++ [])))))) := by
    rw [List.append_assoc]; exact h2
  have e88 : w.rangeAt rb 88 (rp3 d tb) := rangeAt_part h3 88 rfl
  have h4 : w.rangeAt rb 0 ((((rp0 d ++ (repS d m 0).hq.L) ++ (repS d m 0).lk.L) ++ rp3 d tb) ++ (rp4 b ++ ([.bool d.v0, .bool d.v1, .bool d.v2] ++ (rp5 ++ (rep.L ++ []))))) := by
    rw [List.append_assoc]; exact h3
  have h5 : w.rangeAt rb 0 (((((rp0 d ++ (repS d m 0).hq.L) ++ (repS d m 0).lk.L) ++ rp3 d tb) ++ rp4 b) ++ ([.bool d.v0, .bool d.v1, .bool d.v2] ++ (rp5 ++ (rep.L ++ [])))) := by
    rw [List.append_assoc]; exact h4
  have e93 : w.rangeAt rb 93 [.bool d.v0, .bool d.v1, .bool d.v2] := rangeAt_part h5 93 rfl
  have e8 : w.rangeAt rb 8 [.int .i64 d.ece, .slice none 0 0] :=
    rangeAt_part (l := [.int .i64 0, .int .i64 0, .int .i64 0, .nilIface, .nilFunc, .nilIface, .int .i64 0, .int .i64 d.ep]) (m := [.int .i64 d.ece, .slice none 0 0]) h 8 rfl
  have c7 : w.cell? ⟨rb, 7, none⟩ = _ := h 7 _ rfl
  have c10 : w.cell? ⟨rb, 10, none⟩ = _ := h 10 _ rfl
  have c11 : w.cell? ⟨rb, 11, none⟩ = _ := h 11 _ rfl
  have c12 : w.cell? ⟨rb, 12, none⟩ = _ := h 12 _ rfl
  have c88 : w.cell? ⟨rb, 88, none⟩ = _ := e88 0 _ rfl
  have c90 : w.cell? ⟨rb, 90, none⟩ = _ := e88 2 _ rfl
  have t36 : w.rangeAt tb 36 (bytesV (d.tp :: z31)) := rangeAt_part ht 36 rfl
  exact ⟨c7, e8, c10, c11, c12, e16, e52, c88, c90, e93, t36⟩
end

theorem bl_eq (b : Bool) (x : Int) (l : List Int) : ((x :: l) == (fx .u8 b x :: l)) = !b := by
  rw [List.cons_beq_cons, fx_u8]; simp
theorem tp_eq (b c : Bool) (x : Int) (l : List Int) : ((x :: 0 :: l) == (fx .u8 b x :: fx .u8 c 0 :: l)) = (!b && !c) := by
  rw [List.cons_beq_cons, fx_u8, List.cons_beq_cons, fx_u8]; simp

/-- THE PLAIN LAW: exp and rep say the same just where none of the first eighteen bits is set. -/
theorem same_want (d : Dt) (m : Int) (sa : Option Addr) (sn sc : Nat) (h0 : 0 ≤ m) (h1 : m < 4294967296) : sameB (repS d m 0) (repF d m sa sn sc) = wantB m := by
  rw [want_bits m h0 h1]
  have on1 : ∀ i, i < 19 → on 19 i m = bitB m i := fun i hi => by simp [on, hi]
  have on0 : ∀ i, on 0 i m = false := fun i => by simp [on]
  simp only [sameB, namesB_eq, repF, repS, on0, fx_f, fb_f, on1 0 (by decide), on1 1 (by decide), on1 2 (by decide), on1 3 (by decide), on1 4 (by decide), on1 5 (by decide), on1 6 (by decide), on1 7 (by decide), on1 8 (by decide), on1 9 (by decide), on1 10 (by decide), on1 11 (by decide), on1 12 (by decide), on1 13 (by decide), on1 14 (by decide), on1 15 (by decide), on1 16 (by decide), on1 17 (by decide), fx_i64, fb_eq, bl_eq, tp_eq]
  generalize bitB m 0 = b0
  generalize bitB m 1 = b1
  generalize bitB m 2 = b2
  generalize bitB m 3 = b3
  generalize bitB m 4 = b4
  generalize bitB m 5 = b5
  generalize bitB m 6 = b6
  generalize bitB m 7 = b7
  generalize bitB m 8 = b8
  generalize bitB m 9 = b9
  generalize bitB m 10 = b10
  generalize bitB m 11 = b11
  generalize bitB m 12 = b12
  generalize bitB m 13 = b13
  generalize bitB m 14 = b14
  generalize bitB m 15 = b15
  generalize bitB m 16 = b16
  generalize bitB m 17 = b17
  simp only [Bool.and_assoc]
  rw [Bool.eq_iff_iff]
  simp only [Bool.and_eq_true]
  constructor
  · rintro ⟨a0, a1, a2, a3, a4, a5, a6, a8, a9, a7, a10, a11, a13, a14, a12, a15, a16, a17⟩
    exact ⟨a0, a1, a2, a3, a4, a5, a6, a7, a8, a9, a10, a11, a12, a13, a14, a15, a16, a17⟩
  · rintro ⟨a0, a1, a2, a3, a4, a5, a6, a7, a8, a9, a10, a11, a12, a13, a14, a15, a16, a17⟩
    exact ⟨a0, a1, a2, a3, a4, a5, a6, a8, a9, a7, a10, a11, a13, a14, a12, a15, a16, a17⟩
end Go.Proofs.Ybulkcsck
