/-
  OWN TEXT. LawS4690AReport: a struct built of all its fields, in order; (*Replica).State.
-/
import Derived.Test.YbulkcsckRepE
import Derived.Great.FillDense
namespace Go.Proofs.Ybulkcsck
open Go.RowKit

/-! ### all fields in order -/
theorem fold_set_eq (l done todo : List Value) (hl : l.length ≤ todo.length) :
    (l.zipIdx.foldl (fun cs (x : Value × Nat) => cs.setIfInBounds (done.length + x.2) x.1) (done ++ todo).toArray) = (done ++ l ++ todo.drop l.length).toArray := by
  obtain ⟨h1, h2⟩ := Great.foldl_set done.length l 0 (done ++ todo).toArray
  apply Array.ext_getElem?
  intro k
  rw [h2 k]
  simp only [Nat.add_zero, List.size_toArray, List.length_append, List.getElem?_toArray]
  by_cases hk : done.length ≤ k ∧ k < done.length + l.length ∧ k < done.length + todo.length
  · rw [if_pos hk]
    rw [List.getElem?_append_left (by simp; omega), List.getElem?_append_right (by omega)]
  · rw [if_neg hk]
    by_cases h3 : k < done.length
    · rw [List.getElem?_append_left h3, List.append_assoc, List.getElem?_append_left h3]
    · rw [List.getElem?_append_right (by omega), List.append_assoc, List.getElem?_append_right (by omega), List.getElem?_append_right (by omega), List.getElem?_drop]
      congr 1
      omega

def seqOk (place : Nat → Option (Nat × Nat)) : Nat → List (Nat × Value) → Prop
  | _, [] => True
  | n, (i, v) :: r => place i = some (n, v.cells.size) ∧ seqOk place (n + v.cells.size) r
def flat (parts : List (Nat × Value)) : List Value := parts.flatMap (fun x => x.2.cells.toList)

theorem fill_seq (place : Nat → Option (Nat × Nat)) : ∀ (parts : List (Nat × Value)) (done todo : List Value), seqOk place done.length parts → todo.length = (flat parts).length →
    Instr.fill place (done ++ todo).toArray parts = some (done ++ flat parts).toArray
  | [], done, todo, _, h => by
    have : todo = [] := List.length_eq_zero_iff.1 (by simpa [flat] using h)
    subst this
    simp [Instr.fill, flat]
  | (i, v) :: r, done, todo, hok, h => by
    obtain ⟨h1, h2⟩ := hok
    have hlen : todo.length = v.cells.size + (flat r).length := by simpa [flat] using h
    have e := fold_set_eq v.cells.toList done todo (by simp; omega)
    have ih := fill_seq place r (done ++ v.cells.toList) (todo.drop v.cells.size) (by simpa using h2) (by simp; omega)
    unfold Instr.fill
    simp only [h1]
    rw [if_neg (by simp; omega)]
    rw [← Array.foldl_toList, Array.toList_zipIdx, e]
    simp only [Array.length_toList] at ih ⊢
    rw [ih]
    simp [flat]

theorem built34 (s : St) (hs : s.Ok) : Yba.prog.built 34 [(0, .int .i64 s.ep), (1, .agg #[.int .i64 s.ecEp, .slice s.ea s.en s.ec]), (2, .int .i64 s.vw), (3, .int .i64 s.ws), (4, .bool s.lv), (5, .agg #[.bool s.v0, .bool s.v1, .bool s.v2]),
    (6, .agg s.lk.L.toArray), (7, .bool s.ld), (8, .agg s.hq.L.toArray), (9, .agg (bytesV s.tp).toArray)] = some s.L.toArray := by
  have h1 := s.lk.len hs.lk
  have h2 := s.hq.len hs.hq
  have h3 : (bytesV s.tp).length = 32 := by rw [bytesV_length, hs.tp]
  have hz : ∃ z : List Value, z.length = 114 ∧ ∀ parts, Yba.prog.built 34 parts = Instr.fill (#[(0, 1), (1, 2), (3, 1), (4, 1), (5, 1), (6, 3), (9, 36), (45, 1), (46, 36), (82, 32)][·]?) z.toArray parts := by
    refine ⟨((Yba.t34.zero.getD undef).cells).toList, by kernel_rfl, fun parts => by kernel_rfl⟩
  obtain ⟨z, hzl, hb⟩ := hz
  rw [hb]
  have := fill_seq (#[(0, 1), (1, 2), (3, 1), (4, 1), (5, 1), (6, 3), (9, 36), (45, 1), (46, 36), (82, 32)][·]?) [(0, .int .i64 s.ep), (1, .agg #[.int .i64 s.ecEp, .slice s.ea s.en s.ec]), (2, .int .i64 s.vw), (3, .int .i64 s.ws), (4, .bool s.lv), (5, .agg #[.bool s.v0, .bool s.v1, .bool s.v2]),
    (6, .agg s.lk.L.toArray), (7, .bool s.ld), (8, .agg s.hq.L.toArray), (9, .agg (bytesV s.tp).toArray)] [] z (by simp [seqOk, Value.cells, h1, h2, h3]) (by simp [flat, Value.cells, h1, h2, h3, hzl])
  rw [List.nil_append, List.nil_append] at this
  rw [this]
  simp [flat, Value.cells, St.L]
end Go.Proofs.Ybulkcsck
