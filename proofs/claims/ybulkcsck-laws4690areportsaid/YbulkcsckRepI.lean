/-
  OWN TEXT. LawS4690AReport: the law's data: d, exp, and rep after k of its flips.
-/
import Derived.Test.YbulkcsckRepH
namespace Go.Proofs.Ybulkcsck
open Go.RowKit

structure Dt where
  ep : Int
  ece : Int
  vw : Int
  ws : Int
  lv : Bool
  v0 : Bool
  v1 : Bool
  v2 : Bool
  ls : Int
  le : Int
  lw : Int
  lb : Int
  ld : Bool
  hs : Int
  he : Int
  hw : Int
  hb : Int
  tp : Int

def Dt.L (d : Dt) : List Value := [.int .i64 d.ep, .int .i64 d.ece, .int .i64 d.vw, .int .i64 d.ws, .bool d.lv, .bool d.v0, .bool d.v1, .bool d.v2, .int .i64 d.ls, .int .i64 d.le, .int .i64 d.lw, .int .u8 d.lb, .bool d.ld, .int .i64 d.hs, .int .i64 d.he, .int .i64 d.hw, .int .u8 d.hb, .int .u8 d.tp]

def z31 : List Int := [0, 0, 0, 0, 0, 0, 0, 0, 0, 0, 0, 0, 0, 0, 0, 0, 0, 0, 0, 0, 0, 0, 0, 0, 0, 0, 0, 0, 0, 0, 0]
def z30 : List Int := [0, 0, 0, 0, 0, 0, 0, 0, 0, 0, 0, 0, 0, 0, 0, 0, 0, 0, 0, 0, 0, 0, 0, 0, 0, 0, 0, 0, 0, 0]
def on (k i : Nat) (m : Int) : Bool := decide (i < k) && bitB m i
def fx (k : IntKind) (b : Bool) (x : Int) : Int := if b then bits .xor k x 1 else x
def fb (b x : Bool) : Bool := if b then !x else x

/-- exp, and rep behind its first k tests -/
def repS (d : Dt) (m : Int) (k : Nat) : St :=
  { ep := fx .i64 (on k 0 m) d.ep, ecEp := fx .i64 (on k 18 m) d.ece, ea := none, en := 0, ec := 0, vw := fx .i64 (on k 1 m) d.vw, ws := fx .i64 (on k 2 m) d.ws, lv := fb (on k 3 m) d.lv,
    v0 := fb (on k 4 m) d.v0, v1 := fb (on k 5 m) d.v1, v2 := fb (on k 6 m) d.v2,
    lk := { st := fx .i64 (on k 7 m) d.ls, ep := fx .i64 (on k 8 m) d.le, vw := fx .i64 (on k 9 m) d.lw, bl := fx .u8 (on k 10 m) d.lb :: z31, sa := none, sn := 0, sc := 0 },
    ld := fb (on k 11 m) d.ld,
    hq := { st := fx .i64 (on k 12 m) d.hs, ep := fx .i64 (on k 13 m) d.he, vw := fx .i64 (on k 14 m) d.hw, bl := fx .u8 (on k 15 m) d.hb :: z31, sa := none, sn := 0, sc := 0 },
    tp := fx .u8 (on k 16 m) d.tp :: fx .u8 (on k 17 m) 0 :: z30 }
theorem repS_ok (d : Dt) (m : Int) (k : Nat) : (repS d m k).Ok := ⟨rfl, rfl, rfl⟩

theorem on_same {k i : Nat} (m : Int) (h : i ≠ k) : on (k + 1) i m = on k i m := by
  unfold on
  by_cases h1 : i < k
  · have h2 : i < k + 1 := by omega
    simp [h1, h2]
  · have h2 : ¬ i < k + 1 := by omega
    simp [h1, h2]
theorem on_now (k : Nat) (m : Int) : on (k + 1) k m = bitB m k := by simp [on]
theorem on_not (k : Nat) (m : Int) : on k k m = false := by simp [on]
theorem fx_t (k : IntKind) (x : Int) : fx k true x = bits .xor k x 1 := rfl
theorem fx_f (k : IntKind) (x : Int) : fx k false x = x := rfl
theorem fb_t (x : Bool) : fb true x = !x := rfl
theorem fb_f (x : Bool) : fb false x = x := rfl

theorem get0 (d : Dt) (m : Int) : (repS d m 0).L[0]? = some (.int .i64 d.ep) := rfl
theorem stepF0 (d : Dt) (m : Int) (h : bitB m 0 = false) : repS d m 0 = repS d m 1 := by
  have e : ∀ j, on 1 j m = on 0 j m := fun j => by
    by_cases hj : j = 0
    · subst hj; rw [on_now, on_not, h]
    · exact on_same m hj
  simp only [repS, e]
theorem stepT0 (d : Dt) (m : Int) (h : bitB m 0 = true) : (repS d m 0).L.toArray.setIfInBounds 0 (.int .i64 (bits .xor .i64 d.ep 1)) = (repS d m 1).L.toArray := by
  have e1 : on 1 0 m = true := by rw [on_now, h]
  generalize hb : bitB m 0 = b at h
  subst h
  have hb' : bits .and .u32 (m / 2 ^ 0) 1 == 1 := hb
  clear e1
  rw [List.setIfInBounds_toArray]
  refine congrArg List.toArray ?_
  have key : (repS d m 1).L = (repS d m 0).L.set 0 (.int .i64 (bits .xor .i64 d.ep 1)) := by
    have e : ∀ j, j ≠ 0 → on 1 j m = on 0 j m := fun j hj => on_same m hj
    have e1 : on 1 0 m = true := by rw [on_now]; exact hb
    simp only [repS, e1, e 1 (by decide), e 2 (by decide), e 3 (by decide), e 4 (by decide), e 5 (by decide), e 6 (by decide), e 7 (by decide), e 8 (by decide), e 9 (by decide), e 10 (by decide), e 11 (by decide), e 12 (by decide), e 13 (by decide), e 14 (by decide), e 15 (by decide), e 16 (by decide), e 17 (by decide), e 18 (by decide), fx_t]
    rfl
  exact key.symm

theorem get1 (d : Dt) (m : Int) : (repS d m 1).L[3]? = some (.int .i64 d.vw) := rfl
theorem stepF1 (d : Dt) (m : Int) (h : bitB m 1 = false) : repS d m 1 = repS d m 2 := by
  have e : ∀ j, on 2 j m = on 1 j m := fun j => by
    by_cases hj : j = 1
    · subst hj; rw [on_now, on_not, h]
    · exact on_same m hj
  simp only [repS, e]
theorem stepT1 (d : Dt) (m : Int) (h : bitB m 1 = true) : (repS d m 1).L.toArray.setIfInBounds 3 (.int .i64 (bits .xor .i64 d.vw 1)) = (repS d m 2).L.toArray := by
  have e1 : on 2 1 m = true := by rw [on_now, h]
  generalize hb : bitB m 1 = b at h
  subst h
  have hb' : bits .and .u32 (m / 2 ^ 1) 1 == 1 := hb
  clear e1
  rw [List.setIfInBounds_toArray]
  refine congrArg List.toArray ?_
  have key : (repS d m 2).L = (repS d m 1).L.set 3 (.int .i64 (bits .xor .i64 d.vw 1)) := by
    have e : ∀ j, j ≠ 1 → on 2 j m = on 1 j m := fun j hj => on_same m hj
    have e1 : on 2 1 m = true := by rw [on_now]; exact hb
    simp only [repS, e1, e 0 (by decide), e 2 (by decide), e 3 (by decide), e 4 (by decide), e 5 (by decide), e 6 (by decide), e 7 (by decide), e 8 (by decide), e 9 (by decide), e 10 (by decide), e 11 (by decide), e 12 (by decide), e 13 (by decide), e 14 (by decide), e 15 (by decide), e 16 (by decide), e 17 (by decide), e 18 (by decide), fx_t]
    rfl
  exact key.symm

theorem get2 (d : Dt) (m : Int) : (repS d m 2).L[4]? = some (.int .i64 d.ws) := rfl
theorem stepF2 (d : Dt) (m : Int) (h : bitB m 2 = false) : repS d m 2 = repS d m 3 := by
  have e : ∀ j, on 3 j m = on 2 j m := fun j => by
    by_cases hj : j = 2
    · subst hj; rw [on_now, on_not, h]
    · exact on_same m hj
  simp only [repS, e]
theorem stepT2 (d : Dt) (m : Int) (h : bitB m 2 = true) : (repS d m 2).L.toArray.setIfInBounds 4 (.int .i64 (bits .xor .i64 d.ws 1)) = (repS d m 3).L.toArray := by
  have e1 : on 3 2 m = true := by rw [on_now, h]
  generalize hb : bitB m 2 = b at h
  subst h
  have hb' : bits .and .u32 (m / 2 ^ 2) 1 == 1 := hb
  clear e1
  rw [List.setIfInBounds_toArray]
  refine congrArg List.toArray ?_
  have key : (repS d m 3).L = (repS d m 2).L.set 4 (.int .i64 (bits .xor .i64 d.ws 1)) := by
    have e : ∀ j, j ≠ 2 → on 3 j m = on 2 j m := fun j hj => on_same m hj
    have e1 : on 3 2 m = true := by rw [on_now]; exact hb
    simp only [repS, e1, e 0 (by decide), e 1 (by decide), e 3 (by decide), e 4 (by decide), e 5 (by decide), e 6 (by decide), e 7 (by decide), e 8 (by decide), e 9 (by decide), e 10 (by decide), e 11 (by decide), e 12 (by decide), e 13 (by decide), e 14 (by decide), e 15 (by decide), e 16 (by decide), e 17 (by decide), e 18 (by decide), fx_t]
    rfl
  exact key.symm

theorem get3 (d : Dt) (m : Int) : (repS d m 3).L[5]? = some (.bool d.lv) := rfl
theorem stepF3 (d : Dt) (m : Int) (h : bitB m 3 = false) : repS d m 3 = repS d m 4 := by
  have e : ∀ j, on 4 j m = on 3 j m := fun j => by
    by_cases hj : j = 3
    · subst hj; rw [on_now, on_not, h]
    · exact on_same m hj
  simp only [repS, e]
theorem stepT3 (d : Dt) (m : Int) (h : bitB m 3 = true) : (repS d m 3).L.toArray.setIfInBounds 5 (.bool (!d.lv)) = (repS d m 4).L.toArray := by
  have e1 : on 4 3 m = true := by rw [on_now, h]
  generalize hb : bitB m 3 = b at h
  subst h
  have hb' : bits .and .u32 (m / 2 ^ 3) 1 == 1 := hb
  clear e1
  rw [List.setIfInBounds_toArray]
  refine congrArg List.toArray ?_
  have key : (repS d m 4).L = (repS d m 3).L.set 5 (.bool (!d.lv)) := by
    have e : ∀ j, j ≠ 3 → on 4 j m = on 3 j m := fun j hj => on_same m hj
    have e1 : on 4 3 m = true := by rw [on_now]; exact hb
    simp only [repS, e1, e 0 (by decide), e 1 (by decide), e 2 (by decide), e 4 (by decide), e 5 (by decide), e 6 (by decide), e 7 (by decide), e 8 (by decide), e 9 (by decide), e 10 (by decide), e 11 (by decide), e 12 (by decide), e 13 (by decide), e 14 (by decide), e 15 (by decide), e 16 (by decide), e 17 (by decide), e 18 (by decide), fb_t]
    rfl
  exact key.symm

theorem get4 (d : Dt) (m : Int) : (repS d m 4).L[6]? = some (.bool d.v0) := rfl
theorem stepF4 (d : Dt) (m : Int) (h : bitB m 4 = false) : repS d m 4 = repS d m 5 := by
  have e : ∀ j, on 5 j m = on 4 j m := fun j => by
    by_cases hj : j = 4
    · subst hj; rw [on_now, on_not, h]
    · exact on_same m hj
  simp only [repS, e]
theorem stepT4 (d : Dt) (m : Int) (h : bitB m 4 = true) : (repS d m 4).L.toArray.setIfInBounds 6 (.bool (!d.v0)) = (repS d m 5).L.toArray := by
  have e1 : on 5 4 m = true := by rw [on_now, h]
  generalize hb : bitB m 4 = b at h
  subst h
  have hb' : bits .and .u32 (m / 2 ^ 4) 1 == 1 := hb
  clear e1
  rw [List.setIfInBounds_toArray]
  refine congrArg List.toArray ?_
  have key : (repS d m 5).L = (repS d m 4).L.set 6 (.bool (!d.v0)) := by
    have e : ∀ j, j ≠ 4 → on 5 j m = on 4 j m := fun j hj => on_same m hj
    have e1 : on 5 4 m = true := by rw [on_now]; exact hb
    simp only [repS, e1, e 0 (by decide), e 1 (by decide), e 2 (by decide), e 3 (by decide), e 5 (by decide), e 6 (by decide), e 7 (by decide), e 8 (by decide), e 9 (by decide), e 10 (by decide), e 11 (by decide), e 12 (by decide), e 13 (by decide), e 14 (by decide), e 15 (by decide), e 16 (by decide), e 17 (by decide), e 18 (by decide), fb_t]
    rfl
  exact key.symm

theorem get5 (d : Dt) (m : Int) : (repS d m 5).L[7]? = some (.bool d.v1) := rfl
theorem stepF5 (d : Dt) (m : Int) (h : bitB m 5 = false) : repS d m 5 = repS d m 6 := by
  have e : ∀ j, on 6 j m = on 5 j m := fun j => by
    by_cases hj : j = 5
    · subst hj; rw [on_now, on_not, h]
    · exact on_same m hj
  simp only [repS, e]
theorem stepT5 (d : Dt) (m : Int) (h : bitB m 5 = true) : (repS d m 5).L.toArray.setIfInBounds 7 (.bool (!d.v1)) = (repS d m 6).L.toArray := by
  have e1 : on 6 5 m = true := by rw [on_now, h]
  generalize hb : bitB m 5 = b at h
  subst h
  have hb' : bits .and .u32 (m / 2 ^ 5) 1 == 1 := hb
  clear e1
  rw [List.setIfInBounds_toArray]
  refine congrArg List.toArray ?_
  have key : (repS d m 6).L = (repS d m 5).L.set 7 (.bool (!d.v1)) := by
    have e : ∀ j, j ≠ 5 → on 6 j m = on 5 j m := fun j hj => on_same m hj
    have e1 : on 6 5 m = true := by rw [on_now]; exact hb
    simp only [repS, e1, e 0 (by decide), e 1 (by decide), e 2 (by decide), e 3 (by decide), e 4 (by decide), e 6 (by decide), e 7 (by decide), e 8 (by decide), e 9 (by decide), e 10 (by decide), e 11 (by decide), e 12 (by decide), e 13 (by decide), e 14 (by decide), e 15 (by decide), e 16 (by decide), e 17 (by decide), e 18 (by decide), fb_t]
    rfl
  exact key.symm

theorem get6 (d : Dt) (m : Int) : (repS d m 6).L[8]? = some (.bool d.v2) := rfl
theorem stepF6 (d : Dt) (m : Int) (h : bitB m 6 = false) : repS d m 6 = repS d m 7 := by
  have e : ∀ j, on 7 j m = on 6 j m := fun j => by
    by_cases hj : j = 6
    · subst hj; rw [on_now, on_not, h]
    · exact on_same m hj
  simp only [repS, e]
theorem stepT6 (d : Dt) (m : Int) (h : bitB m 6 = true) : (repS d m 6).L.toArray.setIfInBounds 8 (.bool (!d.v2)) = (repS d m 7).L.toArray := by
  have e1 : on 7 6 m = true := by rw [on_now, h]
  generalize hb : bitB m 6 = b at h
  subst h
  have hb' : bits .and .u32 (m / 2 ^ 6) 1 == 1 := hb
  clear e1
  rw [List.setIfInBounds_toArray]
  refine congrArg List.toArray ?_
  have key : (repS d m 7).L = (repS d m 6).L.set 8 (.bool (!d.v2)) := by
    have e : ∀ j, j ≠ 6 → on 7 j m = on 6 j m := fun j hj => on_same m hj
    have e1 : on 7 6 m = true := by rw [on_now]; exact hb
    simp only [repS, e1, e 0 (by decide), e 1 (by decide), e 2 (by decide), e 3 (by decide), e 4 (by decide), e 5 (by decide), e 7 (by decide), e 8 (by decide), e 9 (by decide), e 10 (by decide), e 11 (by decide), e 12 (by decide), e 13 (by decide), e 14 (by decide), e 15 (by decide), e 16 (by decide), e 17 (by decide), e 18 (by decide), fb_t]
    rfl
  exact key.symm

theorem get7 (d : Dt) (m : Int) : (repS d m 7).L[9]? = some (.int .i64 d.ls) := rfl
theorem stepF7 (d : Dt) (m : Int) (h : bitB m 7 = false) : repS d m 7 = repS d m 8 := by
  have e : ∀ j, on 8 j m = on 7 j m := fun j => by
    by_cases hj : j = 7
    · subst hj; rw [on_now, on_not, h]
    · exact on_same m hj
  simp only [repS, e]
theorem stepT7 (d : Dt) (m : Int) (h : bitB m 7 = true) : (repS d m 7).L.toArray.setIfInBounds 9 (.int .i64 (bits .xor .i64 d.ls 1)) = (repS d m 8).L.toArray := by
  have e1 : on 8 7 m = true := by rw [on_now, h]
  generalize hb : bitB m 7 = b at h
  subst h
  have hb' : bits .and .u32 (m / 2 ^ 7) 1 == 1 := hb
  clear e1
  rw [List.setIfInBounds_toArray]
  refine congrArg List.toArray ?_
  have key : (repS d m 8).L = (repS d m 7).L.set 9 (.int .i64 (bits .xor .i64 d.ls 1)) := by
    have e : ∀ j, j ≠ 7 → on 8 j m = on 7 j m := fun j hj => on_same m hj
    have e1 : on 8 7 m = true := by rw [on_now]; exact hb
    simp only [repS, e1, e 0 (by decide), e 1 (by decide), e 2 (by decide), e 3 (by decide), e 4 (by decide), e 5 (by decide), e 6 (by decide), e 8 (by decide), e 9 (by decide), e 10 (by decide), e 11 (by decide), e 12 (by decide), e 13 (by decide), e 14 (by decide), e 15 (by decide), e 16 (by decide), e 17 (by decide), e 18 (by decide), fx_t]
    rfl
  exact key.symm

theorem get8 (d : Dt) (m : Int) : (repS d m 8).L[10]? = some (.int .i64 d.le) := rfl
theorem stepF8 (d : Dt) (m : Int) (h : bitB m 8 = false) : repS d m 8 = repS d m 9 := by
  have e : ∀ j, on 9 j m = on 8 j m := fun j => by
    by_cases hj : j = 8
    · subst hj; rw [on_now, on_not, h]
    · exact on_same m hj
  simp only [repS, e]
theorem stepT8 (d : Dt) (m : Int) (h : bitB m 8 = true) : (repS d m 8).L.toArray.setIfInBounds 10 (.int .i64 (bits .xor .i64 d.le 1)) = (repS d m 9).L.toArray := by
  have e1 : on 9 8 m = true := by rw [on_now, h]
  generalize hb : bitB m 8 = b at h
  subst h
  have hb' : bits .and .u32 (m / 2 ^ 8) 1 == 1 := hb
  clear e1
  rw [List.setIfInBounds_toArray]
  refine congrArg List.toArray ?_
  have key : (repS d m 9).L = (repS d m 8).L.set 10 (.int .i64 (bits .xor .i64 d.le 1)) := by
    have e : ∀ j, j ≠ 8 → on 9 j m = on 8 j m := fun j hj => on_same m hj
    have e1 : on 9 8 m = true := by rw [on_now]; exact hb
    simp only [repS, e1, e 0 (by decide), e 1 (by decide), e 2 (by decide), e 3 (by decide), e 4 (by decide), e 5 (by decide), e 6 (by decide), e 7 (by decide), e 9 (by decide), e 10 (by decide), e 11 (by decide), e 12 (by decide), e 13 (by decide), e 14 (by decide), e 15 (by decide), e 16 (by decide), e 17 (by decide), e 18 (by decide), fx_t]
    rfl
  exact key.symm

theorem get9 (d : Dt) (m : Int) : (repS d m 9).L[11]? = some (.int .i64 d.lw) := rfl
theorem stepF9 (d : Dt) (m : Int) (h : bitB m 9 = false) : repS d m 9 = repS d m 10 := by
  have e : ∀ j, on 10 j m = on 9 j m := fun j => by
    by_cases hj : j = 9
    · subst hj; rw [on_now, on_not, h]
    · exact on_same m hj
  simp only [repS, e]
theorem stepT9 (d : Dt) (m : Int) (h : bitB m 9 = true) : (repS d m 9).L.toArray.setIfInBounds 11 (.int .i64 (bits .xor .i64 d.lw 1)) = (repS d m 10).L.toArray := by
  have e1 : on 10 9 m = true := by rw [on_now, h]
  generalize hb : bitB m 9 = b at h
  subst h
  have hb' : bits .and .u32 (m / 2 ^ 9) 1 == 1 := hb
  clear e1
  rw [List.setIfInBounds_toArray]
  refine congrArg List.toArray ?_
  have key : (repS d m 10).L = (repS d m 9).L.set 11 (.int .i64 (bits .xor .i64 d.lw 1)) := by
    have e : ∀ j, j ≠ 9 → on 10 j m = on 9 j m := fun j hj => on_same m hj
    have e1 : on 10 9 m = true := by rw [on_now]; exact hb
    simp only [repS, e1, e 0 (by decide), e 1 (by decide), e 2 (by decide), e 3 (by decide), e 4 (by decide), e 5 (by decide), e 6 (by decide), e 7 (by decide), e 8 (by decide), e 10 (by decide), e 11 (by decide), e 12 (by decide), e 13 (by decide), e 14 (by decide), e 15 (by decide), e 16 (by decide), e 17 (by decide), e 18 (by decide), fx_t]
    rfl
  exact key.symm

theorem get10 (d : Dt) (m : Int) : (repS d m 10).L[12]? = some (.int .u8 d.lb) := rfl
theorem stepF10 (d : Dt) (m : Int) (h : bitB m 10 = false) : repS d m 10 = repS d m 11 := by
  have e : ∀ j, on 11 j m = on 10 j m := fun j => by
    by_cases hj : j = 10
    · subst hj; rw [on_now, on_not, h]
    · exact on_same m hj
  simp only [repS, e]
theorem stepT10 (d : Dt) (m : Int) (h : bitB m 10 = true) : (repS d m 10).L.toArray.setIfInBounds 12 (.int .u8 (bits .xor .u8 d.lb 1)) = (repS d m 11).L.toArray := by
  have e1 : on 11 10 m = true := by rw [on_now, h]
  generalize hb : bitB m 10 = b at h
  subst h
  have hb' : bits .and .u32 (m / 2 ^ 10) 1 == 1 := hb
  clear e1
  rw [List.setIfInBounds_toArray]
  refine congrArg List.toArray ?_
  have key : (repS d m 11).L = (repS d m 10).L.set 12 (.int .u8 (bits .xor .u8 d.lb 1)) := by
    have e : ∀ j, j ≠ 10 → on 11 j m = on 10 j m := fun j hj => on_same m hj
    have e1 : on 11 10 m = true := by rw [on_now]; exact hb
    simp only [repS, e1, e 0 (by decide), e 1 (by decide), e 2 (by decide), e 3 (by decide), e 4 (by decide), e 5 (by decide), e 6 (by decide), e 7 (by decide), e 8 (by decide), e 9 (by decide), e 11 (by decide), e 12 (by decide), e 13 (by decide), e 14 (by decide), e 15 (by decide), e 16 (by decide), e 17 (by decide), e 18 (by decide), fx_t]
    rfl
  exact key.symm

theorem get11 (d : Dt) (m : Int) : (repS d m 11).L[45]? = some (.bool d.ld) := rfl
theorem stepF11 (d : Dt) (m : Int) (h : bitB m 11 = false) : repS d m 11 = repS d m 12 := by
  have e : ∀ j, on 12 j m = on 11 j m := fun j => by
    by_cases hj : j = 11
    · subst hj; rw [on_now, on_not, h]
    · exact on_same m hj
  simp only [repS, e]
theorem stepT11 (d : Dt) (m : Int) (h : bitB m 11 = true) : (repS d m 11).L.toArray.setIfInBounds 45 (.bool (!d.ld)) = (repS d m 12).L.toArray := by
  have e1 : on 12 11 m = true := by rw [on_now, h]
  generalize hb : bitB m 11 = b at h
  subst h
  have hb' : bits .and .u32 (m / 2 ^ 11) 1 == 1 := hb
  clear e1
  rw [List.setIfInBounds_toArray]
  refine congrArg List.toArray ?_
  have key : (repS d m 12).L = (repS d m 11).L.set 45 (.bool (!d.ld)) := by
    have e : ∀ j, j ≠ 11 → on 12 j m = on 11 j m := fun j hj => on_same m hj
    have e1 : on 12 11 m = true := by rw [on_now]; exact hb
    simp only [repS, e1, e 0 (by decide), e 1 (by decide), e 2 (by decide), e 3 (by decide), e 4 (by decide), e 5 (by decide), e 6 (by decide), e 7 (by decide), e 8 (by decide), e 9 (by decide), e 10 (by decide), e 12 (by decide), e 13 (by decide), e 14 (by decide), e 15 (by decide), e 16 (by decide), e 17 (by decide), e 18 (by decide), fb_t]
    rfl
  exact key.symm

theorem get12 (d : Dt) (m : Int) : (repS d m 12).L[46]? = some (.int .i64 d.hs) := rfl
theorem stepF12 (d : Dt) (m : Int) (h : bitB m 12 = false) : repS d m 12 = repS d m 13 := by
  have e : ∀ j, on 13 j m = on 12 j m := fun j => by
    by_cases hj : j = 12
    · subst hj; rw [on_now, on_not, h]
    · exact on_same m hj
  simp only [repS, e]
theorem stepT12 (d : Dt) (m : Int) (h : bitB m 12 = true) : (repS d m 12).L.toArray.setIfInBounds 46 (.int .i64 (bits .xor .i64 d.hs 1)) = (repS d m 13).L.toArray := by
  have e1 : on 13 12 m = true := by rw [on_now, h]
  generalize hb : bitB m 12 = b at h
  subst h
  have hb' : bits .and .u32 (m / 2 ^ 12) 1 == 1 := hb
  clear e1
  rw [List.setIfInBounds_toArray]
  refine congrArg List.toArray ?_
  have key : (repS d m 13).L = (repS d m 12).L.set 46 (.int .i64 (bits .xor .i64 d.hs 1)) := by
    have e : ∀ j, j ≠ 12 → on 13 j m = on 12 j m := fun j hj => on_same m hj
    have e1 : on 13 12 m = true := by rw [on_now]; exact hb
    simp only [repS, e1, e 0 (by decide), e 1 (by decide), e 2 (by decide), e 3 (by decide), e 4 (by decide), e 5 (by decide), e 6 (by decide), e 7 (by decide), e 8 (by decide), e 9 (by decide), e 10 (by decide), e 11 (by decide), e 13 (by decide), e 14 (by decide), e 15 (by decide), e 16 (by decide), e 17 (by decide), e 18 (by decide), fx_t]
    rfl
  exact key.symm

theorem get13 (d : Dt) (m : Int) : (repS d m 13).L[47]? = some (.int .i64 d.he) := rfl
theorem stepF13 (d : Dt) (m : Int) (h : bitB m 13 = false) : repS d m 13 = repS d m 14 := by
  have e : ∀ j, on 14 j m = on 13 j m := fun j => by
    by_cases hj : j = 13
    · subst hj; rw [on_now, on_not, h]
    · exact on_same m hj
  simp only [repS, e]
theorem stepT13 (d : Dt) (m : Int) (h : bitB m 13 = true) : (repS d m 13).L.toArray.setIfInBounds 47 (.int .i64 (bits .xor .i64 d.he 1)) = (repS d m 14).L.toArray := by
  have e1 : on 14 13 m = true := by rw [on_now, h]
  generalize hb : bitB m 13 = b at h
  subst h
  have hb' : bits .and .u32 (m / 2 ^ 13) 1 == 1 := hb
  clear e1
  rw [List.setIfInBounds_toArray]
  refine congrArg List.toArray ?_
  have key : (repS d m 14).L = (repS d m 13).L.set 47 (.int .i64 (bits .xor .i64 d.he 1)) := by
    have e : ∀ j, j ≠ 13 → on 14 j m = on 13 j m := fun j hj => on_same m hj
    have e1 : on 14 13 m = true := by rw [on_now]; exact hb
    simp only [repS, e1, e 0 (by decide), e 1 (by decide), e 2 (by decide), e 3 (by decide), e 4 (by decide), e 5 (by decide), e 6 (by decide), e 7 (by decide), e 8 (by decide), e 9 (by decide), e 10 (by decide), e 11 (by decide), e 12 (by decide), e 14 (by decide), e 15 (by decide), e 16 (by decide), e 17 (by decide), e 18 (by decide), fx_t]
    rfl
  exact key.symm

theorem get14 (d : Dt) (m : Int) : (repS d m 14).L[48]? = some (.int .i64 d.hw) := rfl
theorem stepF14 (d : Dt) (m : Int) (h : bitB m 14 = false) : repS d m 14 = repS d m 15 := by
  have e : ∀ j, on 15 j m = on 14 j m := fun j => by
    by_cases hj : j = 14
    · subst hj; rw [on_now, on_not, h]
    · exact on_same m hj
  simp only [repS, e]
theorem stepT14 (d : Dt) (m : Int) (h : bitB m 14 = true) : (repS d m 14).L.toArray.setIfInBounds 48 (.int .i64 (bits .xor .i64 d.hw 1)) = (repS d m 15).L.toArray := by
  have e1 : on 15 14 m = true := by rw [on_now, h]
  generalize hb : bitB m 14 = b at h
  subst h
  have hb' : bits .and .u32 (m / 2 ^ 14) 1 == 1 := hb
  clear e1
  rw [List.setIfInBounds_toArray]
  refine congrArg List.toArray ?_
  have key : (repS d m 15).L = (repS d m 14).L.set 48 (.int .i64 (bits .xor .i64 d.hw 1)) := by
    have e : ∀ j, j ≠ 14 → on 15 j m = on 14 j m := fun j hj => on_same m hj
    have e1 : on 15 14 m = true := by rw [on_now]; exact hb
    simp only [repS, e1, e 0 (by decide), e 1 (by decide), e 2 (by decide), e 3 (by decide), e 4 (by decide), e 5 (by decide), e 6 (by decide), e 7 (by decide), e 8 (by decide), e 9 (by decide), e 10 (by decide), e 11 (by decide), e 12 (by decide), e 13 (by decide), e 15 (by decide), e 16 (by decide), e 17 (by decide), e 18 (by decide), fx_t]
    rfl
  exact key.symm

theorem get15 (d : Dt) (m : Int) : (repS d m 15).L[49]? = some (.int .u8 d.hb) := rfl
theorem stepF15 (d : Dt) (m : Int) (h : bitB m 15 = false) : repS d m 15 = repS d m 16 := by
  have e : ∀ j, on 16 j m = on 15 j m := fun j => by
    by_cases hj : j = 15
    · subst hj; rw [on_now, on_not, h]
    · exact on_same m hj
  simp only [repS, e]
theorem stepT15 (d : Dt) (m : Int) (h : bitB m 15 = true) : (repS d m 15).L.toArray.setIfInBounds 49 (.int .u8 (bits .xor .u8 d.hb 1)) = (repS d m 16).L.toArray := by
  have e1 : on 16 15 m = true := by rw [on_now, h]
  generalize hb : bitB m 15 = b at h
  subst h
  have hb' : bits .and .u32 (m / 2 ^ 15) 1 == 1 := hb
  clear e1
  rw [List.setIfInBounds_toArray]
  refine congrArg List.toArray ?_
  have key : (repS d m 16).L = (repS d m 15).L.set 49 (.int .u8 (bits .xor .u8 d.hb 1)) := by
    have e : ∀ j, j ≠ 15 → on 16 j m = on 15 j m := fun j hj => on_same m hj
    have e1 : on 16 15 m = true := by rw [on_now]; exact hb
    simp only [repS, e1, e 0 (by decide), e 1 (by decide), e 2 (by decide), e 3 (by decide), e 4 (by decide), e 5 (by decide), e 6 (by decide), e 7 (by decide), e 8 (by decide), e 9 (by decide), e 10 (by decide), e 11 (by decide), e 12 (by decide), e 13 (by decide), e 14 (by decide), e 16 (by decide), e 17 (by decide), e 18 (by decide), fx_t]
    rfl
  exact key.symm

theorem get16 (d : Dt) (m : Int) : (repS d m 16).L[82]? = some (.int .u8 d.tp) := rfl
theorem stepF16 (d : Dt) (m : Int) (h : bitB m 16 = false) : repS d m 16 = repS d m 17 := by
  have e : ∀ j, on 17 j m = on 16 j m := fun j => by
    by_cases hj : j = 16
    · subst hj; rw [on_now, on_not, h]
    · exact on_same m hj
  simp only [repS, e]
theorem stepT16 (d : Dt) (m : Int) (h : bitB m 16 = true) : (repS d m 16).L.toArray.setIfInBounds 82 (.int .u8 (bits .xor .u8 d.tp 1)) = (repS d m 17).L.toArray := by
  have e1 : on 17 16 m = true := by rw [on_now, h]
  generalize hb : bitB m 16 = b at h
  subst h
  have hb' : bits .and .u32 (m / 2 ^ 16) 1 == 1 := hb
  clear e1
  rw [List.setIfInBounds_toArray]
  refine congrArg List.toArray ?_
  have key : (repS d m 17).L = (repS d m 16).L.set 82 (.int .u8 (bits .xor .u8 d.tp 1)) := by
    have e : ∀ j, j ≠ 16 → on 17 j m = on 16 j m := fun j hj => on_same m hj
    have e1 : on 17 16 m = true := by rw [on_now]; exact hb
    simp only [repS, e1, e 0 (by decide), e 1 (by decide), e 2 (by decide), e 3 (by decide), e 4 (by decide), e 5 (by decide), e 6 (by decide), e 7 (by decide), e 8 (by decide), e 9 (by decide), e 10 (by decide), e 11 (by decide), e 12 (by decide), e 13 (by decide), e 14 (by decide), e 15 (by decide), e 17 (by decide), e 18 (by decide), fx_t]
    rfl
  exact key.symm

theorem get17 (d : Dt) (m : Int) : (repS d m 17).L[83]? = some (.int .u8 0) := rfl
theorem stepF17 (d : Dt) (m : Int) (h : bitB m 17 = false) : repS d m 17 = repS d m 18 := by
  have e : ∀ j, on 18 j m = on 17 j m := fun j => by
    by_cases hj : j = 17
    · subst hj; rw [on_now, on_not, h]
    · exact on_same m hj
  simp only [repS, e]
theorem stepT17 (d : Dt) (m : Int) (h : bitB m 17 = true) : (repS d m 17).L.toArray.setIfInBounds 83 (.int .u8 (bits .xor .u8 0 1)) = (repS d m 18).L.toArray := by
  have e1 : on 18 17 m = true := by rw [on_now, h]
  generalize hb : bitB m 17 = b at h
  subst h
  have hb' : bits .and .u32 (m / 2 ^ 17) 1 == 1 := hb
  clear e1
  rw [List.setIfInBounds_toArray]
  refine congrArg List.toArray ?_
  have key : (repS d m 18).L = (repS d m 17).L.set 83 (.int .u8 (bits .xor .u8 0 1)) := by
    have e : ∀ j, j ≠ 17 → on 18 j m = on 17 j m := fun j hj => on_same m hj
    have e1 : on 18 17 m = true := by rw [on_now]; exact hb
    simp only [repS, e1, e 0 (by decide), e 1 (by decide), e 2 (by decide), e 3 (by decide), e 4 (by decide), e 5 (by decide), e 6 (by decide), e 7 (by decide), e 8 (by decide), e 9 (by decide), e 10 (by decide), e 11 (by decide), e 12 (by decide), e 13 (by decide), e 14 (by decide), e 15 (by decide), e 16 (by decide), e 18 (by decide), fx_t]
    rfl
  exact key.symm

theorem get18 (d : Dt) (m : Int) : (repS d m 18).L[1]? = some (.int .i64 d.ece) := rfl
theorem stepF18 (d : Dt) (m : Int) (h : bitB m 18 = false) : repS d m 18 = repS d m 19 := by
  have e : ∀ j, on 19 j m = on 18 j m := fun j => by
    by_cases hj : j = 18
    · subst hj; rw [on_now, on_not, h]
    · exact on_same m hj
  simp only [repS, e]
theorem stepT18 (d : Dt) (m : Int) (h : bitB m 18 = true) : (repS d m 18).L.toArray.setIfInBounds 1 (.int .i64 (bits .xor .i64 d.ece 1)) = (repS d m 19).L.toArray := by
  have e1 : on 19 18 m = true := by rw [on_now, h]
  generalize hb : bitB m 18 = b at h
  subst h
  have hb' : bits .and .u32 (m / 2 ^ 18) 1 == 1 := hb
  clear e1
  rw [List.setIfInBounds_toArray]
  refine congrArg List.toArray ?_
  have key : (repS d m 19).L = (repS d m 18).L.set 1 (.int .i64 (bits .xor .i64 d.ece 1)) := by
    have e : ∀ j, j ≠ 18 → on 19 j m = on 18 j m := fun j hj => on_same m hj
    have e1 : on 19 18 m = true := by rw [on_now]; exact hb
    simp only [repS, e1, e 0 (by decide), e 1 (by decide), e 2 (by decide), e 3 (by decide), e 4 (by decide), e 5 (by decide), e 6 (by decide), e 7 (by decide), e 8 (by decide), e 9 (by decide), e 10 (by decide), e 11 (by decide), e 12 (by decide), e 13 (by decide), e 14 (by decide), e 15 (by decide), e 16 (by decide), e 17 (by decide), fx_t]
    rfl
  exact key.symm

end Go.Proofs.Ybulkcsck
