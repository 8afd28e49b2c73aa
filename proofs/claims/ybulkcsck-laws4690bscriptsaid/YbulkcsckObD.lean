/-
  OWN TEXT. A queue: a slice anywhere in a row of the call's own, appended to at its end and cut at its head; elements of one cell. Generic over the program.
-/
import Derived.Test.YbulkcsckRows
import Derived.ArgAppend
import Derived.Below
import Derived.WalkKit
namespace Go.Proofs.Ybulkcsck.Qu
open Go.RowKit

/-- v's elements are xs; its row lies in a block from B on, of element type e. -/
def Qs (w : World) (e : TypeId) (B : Nat) (v : Value) (xs : List Value) : Prop :=
  (v = .slice none 0 0 ∧ xs = []) ∨ ∃ g o cap cur, v = .slice (some ⟨g, o, none⟩) xs.length cap ∧ B ≤ g ∧ w.heap[g]? = some (.cells cur e (0, 0)) ∧ xs.length ≤ cap ∧ cap ≤ maxLen ∧ o + cap ≤ cur.size ∧ ∀ j, j < xs.length → cur[o + j]? = xs[j]?

/-- w' is w but for new blocks and for blocks from B on of element type e. -/
structure Grow (B : Nat) (e : TypeId) (w w' : World) : Prop where
  os : w'.os = w.os
  tape : w'.tape = w.tape
  output : w'.output = w.output
  size : w.heap.size ≤ w'.heap.size
  block : ∀ k, k < w.heap.size → (k < B ∨ ∀ cur, w.heap[k]? ≠ some (.cells cur e (0, 0))) → w'.heap[k]? = w.heap[k]?

theorem Grow.below {B : Nat} {e : TypeId} {w w' : World} (h : Grow B e w w') (hB : B ≤ w.heap.size) : Below B w w' :=
  ⟨h.os, h.tape, h.output, h.size, fun k hk => h.block k (by omega) (.inl hk)⟩

theorem Grow.cells {B : Nat} {e e' : TypeId} {w w' : World} (h : Grow B e w w') {k : Nat} {cur : Array Value} (hk : w.heap[k]? = some (.cells cur e' (0, 0))) (he : e' ≠ e) : w'.heap[k]? = some (.cells cur e' (0, 0)) := by
  rw [h.block k (Array.getElem?_eq_some_iff.1 hk).1 (.inr fun c hc => by rw [hk] at hc; simp only [Option.some.injEq, Obj.cells.injEq] at hc; exact he hc.2.1)]
  exact hk

theorem Grow.chan {B : Nat} {e : TypeId} {w w' : World} (h : Grow B e w w') {k cap : Nat} {buf : Array Value} {cl : Bool} {s r : Nat} {tm : Bool} (hk : w.heap[k]? = some (.chan cap buf cl s r tm)) : w'.heap[k]? = some (.chan cap buf cl s r tm) := by
  rw [h.block k (Array.getElem?_eq_some_iff.1 hk).1 (.inr fun c hc => by rw [hk] at hc; cases hc)]
  exact hk

theorem Grow.qs {B B' : Nat} {e e' : TypeId} {w w' : World} {v : Value} {xs : List Value} (h : Grow B e w w') (q : Qs w e' B' v xs) (he : e' ≠ e) : Qs w' e' B' v xs := by
  rcases q with q | ⟨g, o, cap, cur, h1, h2, h3, h4⟩
  · exact .inl q
  · exact .inr ⟨g, o, cap, cur, h1, h2, h.cells h3 he, h4⟩

/-- The same for any change that keeps all blocks of type e'. -/
theorem Qs.carry {B : Nat} {e : TypeId} {w w' : World} {v : Value} {xs : List Value} (q : Qs w e B v xs) (h : ∀ (k : Nat) (cur : Array Value), w.heap[k]? = some (Obj.cells cur e (0, 0)) → w'.heap[k]? = some (Obj.cells cur e (0, 0))) : Qs w' e B v xs := by
  rcases q with q | ⟨g, o, cap, cur, h1, h2, h3, h4⟩
  · exact .inl q
  · exact .inr ⟨g, o, cap, cur, h1, h2, h _ _ h3, h4⟩

theorem Qs.alloc {B : Nat} {e : TypeId} {w : World} {v : Value} {xs : List Value} (q : Qs w e B v xs) (ob : Obj) : Qs (w.alloc ob) e B v xs :=
  q.carry fun k cur hk => by rw [Below.heap_alloc _ _ _ (Array.getElem?_eq_some_iff.1 hk).1]; exact hk

theorem Qs.nil (w : World) (e : TypeId) (B : Nat) : Qs w e B (.slice none 0 0) [] := .inl ⟨rfl, rfl⟩

theorem Qs.form {B : Nat} {e : TypeId} {w : World} {v : Value} {xs : List Value} (q : Qs w e B v xs) : ∃ p cap, v = .slice p xs.length cap ∧ xs.length ≤ cap := by
  rcases q with ⟨rfl, rfl⟩ | ⟨g, o, cap, cur, h1, _, _, h4, _⟩
  · exact ⟨none, 0, rfl, Nat.le_refl _⟩
  · exact ⟨_, cap, h1, h4⟩

theorem Qs.head {B : Nat} {e : TypeId} {w : World} {v x : Value} {xs : List Value} (q : Qs w e B v (x :: xs)) :
    ∃ g o cap, v = .slice (some ⟨g, o, none⟩) (xs.length + 1) cap ∧ xs.length + 1 ≤ cap ∧ B ≤ g ∧ w.cell? ⟨g, o, none⟩ = some x ∧ w.frozen? ⟨g, o, none⟩ = false ∧ (∃ cur, w.heap[g]? = some (.cells cur e (0, 0))) ∧
      Qs w e B (.slice (some ⟨g, o + 1, none⟩) xs.length (cap - 1)) xs ∧ (cap = 1 → Qs w e B (.slice (some ⟨g, o, none⟩) 0 0) xs) ∧
      ∀ u, Qs (w.setCell ⟨g, o, none⟩ u) e B v (u :: xs) ∧ Grow B e w (w.setCell ⟨g, o, none⟩ u) := by
  rcases q with ⟨_, h⟩ | ⟨g, o, cap, cur, h1, h2, h3, h4, h5, h6, h7⟩
  · cases h
  · have hlt := (Array.getElem?_eq_some_iff.1 h3).1
    simp only [List.length_cons] at h1 h4 h7
    have h70 := h7 0 (by omega)
    simp only [Nat.add_zero, List.getElem?_cons_zero] at h70
    refine ⟨g, o, cap, h1, h4, h2, ?_, ?_, ⟨cur, h3⟩, .inr ⟨g, o + 1, cap - 1, cur, rfl, h2, h3, by omega, by omega, by omega, ?_⟩, ?_, fun u => ⟨.inr ⟨g, o, cap, cur.setIfInBounds o u, h1, h2, ?_, h4, h5, by simpa using h6, ?_⟩, ⟨rfl, rfl, rfl, by simp [World.setCell], ?_⟩⟩⟩
    · simp [World.cell?, h3, h70]
    · simp [World.frozen?, h3]
    · intro j hj
      have := h7 (j + 1) (by omega)
      rw [show o + 1 + j = o + (j + 1) by omega, this]
      simp
    · intro hc
      have : xs = [] := List.eq_nil_of_length_eq_zero (by omega)
      subst this
      exact .inr ⟨g, o, 0, cur, rfl, h2, h3, by simp, by omega, by omega, by simp⟩
    · simp [World.setCell, Array.getElem?_modify, h3]
    · intro j hj
      cases j with
      | zero => simp [show o < cur.size by omega]
      | succ j =>
        have := h7 (j + 1) (by simpa using hj)
        rw [Array.getElem?_setIfInBounds_ne (by omega), this]
        simp
    · intro k hk hor
      refine Below.heap_setCell _ _ _ _ ?_
      rintro rfl
      rcases hor with h | h
      · exact absurd h2 (Nat.not_le_of_lt h)
      · exact h cur h3

theorem Qs.of_owns {B B' : Nat} {e : TypeId} {w : World} {v : Value} {n : Nat} {xs : List Value} (h : w.ownsRow B' e 1 v n xs) (hB : B ≤ B') : Qs w e B v xs := by
  obtain ⟨hl, h⟩ := h
  rw [Nat.mul_one] at hl
  subst hl
  rcases h with ⟨rfl, hn⟩ | ⟨g, cap, cur, h1, h2, h3, h4, h5, h6, h7⟩
  · exact .inl ⟨rfl, List.eq_nil_of_length_eq_zero hn⟩
  · refine .inr ⟨g, 0, cap, cur, h1, by omega, h3, h4, h5, by omega, ?_⟩
    intro j hj
    rw [Nat.mul_one] at h7
    have e2 : xs[j]? = (cur.toList.take xs.length)[j]? := by rw [h7]
    rw [e2, List.getElem?_take_of_lt hj]
    simp

theorem Grow.of_grown {B : Nat} {e : TypeId} {w w' : World} (h : w.grownBy w' none) : Grow B e w w' :=
  ⟨h.os, h.tape, h.output, h.size, fun k hk _ => h.block k hk (by simp)⟩

set_option maxHeartbeats 800000 in
/-- append(v, u). -/
theorem Qs.append {P : Program} {B : Nat} {e : TypeId} {w : World} {v : Value} {xs : List Value} (q : Qs w e B v xs) (t ty : TypeId) (i : TypeInfo) (z : Value) (bytes : Nat) (ht : P.underlying t = some (.slice e)) (hi : P.info? e = some i) (hz : i.zero = some z)
    (hsize : i.size = 1) (hby : i.bytes = bytes) (hzs : z.cells.size = 1) (ad : Addr) (c : Nat) (u : Value) (hu : w.cell? ad = some u) (h1 : u.oneCell' = true) (hlen : xs.length + 1 ≤ maxLen) (hb : (xs.length + 1) * bytes ≤ 140737488355328) (hB : B ≤ w.heap.size) :
    ∃ v' w', (Builtin.append_ #[t, t] ty #[v, .slice (some ad) 1 c]).run P w = .ok v' w' ∧ Qs w' e B v' (xs ++ [u]) ∧ Grow B e w w' := by
  have hnews : ∀ j y, [u][j]? = some y → w.cell? (ad.add j) = some y := fun j y hj => by
    match j, hj with
    | 0, hj => simp at hj; subst hj; simpa [Addr.add] using hu
  have ho : ∀ y ∈ [u], y.oneCell' = true := fun y hy => by simp at hy; subst hy; exact h1
  rcases q with ⟨rfl, rfl⟩ | ⟨g, o, cap, cur, rfl, h2, h3, h4, h5, h6, h7⟩
  · obtain ⟨v', w', hr, hown, hg⟩ := run_append_own (P := P) w w.heap.size t ty e i z 1 bytes ht hi hz hsize hby hzs (by omega) (.slice none 0 0) 0 [] (World.ownsRow_nil _ _ _ _) ad 1 c [u] (by simp) hnews ho (by simpa using hlen) (by simpa using hb) (Nat.le_refl _)
    exact ⟨v', w', hr, .of_owns hown hB, .of_grown hg.1⟩
  · by_cases hroom : xs.length + 1 ≤ cap
    · have hlt : o + xs.length < cur.size := by omega
      have hr := run_append_room_cells (P := P) w t ty e i ht hi g o xs.length cap ad 1 c [u] (by simp [hsize]) hnews ho hroom
        (fun j hj => by simp only [List.length_singleton] at hj; obtain rfl : j = 0 := by omega
                        simp [World.cell?, h3, hsize, hlt])
        (fun j hj => by simp [World.frozen?, h3])
      simp only [hsize, Nat.mul_one, World.setCells] at hr
      refine ⟨_, _, hr, .inr ⟨g, o, cap, cur.setIfInBounds (o + xs.length) u, by simp, h2, ?_, by simpa using hroom, h5, by simpa using h6, ?_⟩, ⟨rfl, rfl, rfl, by simp [World.setCell], ?_⟩⟩
      · simp [World.setCell, Array.getElem?_modify, h3]
      · intro j hj
        simp only [List.length_append, List.length_singleton] at hj
        by_cases hjl : j = xs.length
        · subst hjl
          simp [hlt]
        · rw [Array.getElem?_setIfInBounds_ne (by omega), List.getElem?_append_left (by omega)]
          exact h7 j (by omega)
      · intro k hk hor
        refine Below.heap_setCell _ _ _ _ ?_
        rintro rfl
        rcases hor with h | h
        · exact absurd h2 (Nat.not_le_of_lt h)
        · exact h cur h3
    · have hadd : ∀ j, (⟨g, o, none⟩ : Addr).add j = ⟨g, o + j, none⟩ := fun j => by unfold Addr.add; split <;> simp_all
      obtain ⟨v', w', hr, hown, hg⟩ := run_append_arg_grows (P := P) w t ty e i z 1 bytes ht hi hz hsize hby hzs (by omega) ⟨g, o, none⟩ xs.length cap xs (by simp)
        (fun j y hj => by
          have hjl : j < xs.length := (List.getElem?_eq_some_iff.1 hj).1
          rw [hadd, World.cell?, h3]
          simp [h7 j hjl, hj])
        ad 1 c [u] (by simp) hnews (by omega) hlen hb
      exact ⟨v', w', hr, .of_owns hown hB, .of_grown hg⟩
end Go.Proofs.Ybulkcsck.Qu
