/-
  OWN TEXT. LawS4690CGather: what the run knows of its own counts (no memory).
-/
import Derived.Test.YbulkcsckGbA
namespace Go.Proofs.Ybulkcsck.Ga
open Go.RowKit

/-- cells of a list of signatures, each the signature of a step -/
def SC (xs : List SD) (cells : List Value) : Prop := ∃ ys : List (Nat × SD), cells = ys.flatMap (fun y => [Value.int .i64 ((y.1 : Nat) : Int), y.2.sv]) ∧ ∀ y ∈ ys, y.2 ∈ xs
theorem sigL_sc {xs : List SD} : ∀ (hs : List Bool) (sg : List Value) (k : Nat), (∀ i : Nat, hs[i]? = some true → ∃ d ∈ xs, sg[i]? = some (SD.sv d)) → SC xs (sigL k hs sg)
  | [], _, _, _ => ⟨[], by simp [sigL], by simp⟩
  | _ :: _, [], _, _ => ⟨[], by simp [sigL], by simp⟩
  | true :: hs, v :: sg, k, h => by
    obtain ⟨ys, e, hy⟩ := sigL_sc hs sg (k + 1) (fun i hi => h (i + 1) (by simpa using hi))
    obtain ⟨d, hd, hv⟩ := h 0 rfl
    simp at hv
    refine ⟨(k, d) :: ys, by simp [sigL, e, hv], fun y hy' => ?_⟩
    rcases List.mem_cons.1 hy' with rfl | hy'
    · exact hd
    · exact hy y hy'
  | false :: hs, v :: sg, k, h => by
    obtain ⟨ys, e, hy⟩ := sigL_sc hs sg (k + 1) (fun i hi => h (i + 1) (by simpa using hi))
    exact ⟨ys, by simp [sigL, e], hy⟩

def q1 (q c : Nat) : Nat := if q ≤ c then 1 else 0
theorem q1_le (q c : Nat) : q1 q c ≤ 1 := by unfold q1; split <;> omega
theorem q1_mono {q c c' : Nat} (h : c ≤ c') : q1 q c ≤ q1 q c' := by unfold q1; split <;> split <;> omega
structure GP (n q : Nat) (xs : List SD) (j : Nat) (g : Gh) (ix : Nat → List Nat) : Prop where
  fl : g.frm.length ≤ j
  sl : g.stm.length = g.frm.length
  lh : ∀ s, 1 ≤ s → s ≤ 3 → (g.has s).length = n
  li : ∀ s, 1 ≤ s → s ≤ 3 → (ix s).length = n
  lg : ∀ s, 1 ≤ s → s ≤ 3 → (g.sig s).length = n
  ct : ∀ s, 1 ≤ s → s ≤ 3 → g.cnt s ≤ j
  sg : ∀ s, 1 ≤ s → s ≤ 3 → ∀ v ∈ g.sig s, ∃ p m c, v = Value.slice p m c
  hi : ∀ s, 1 ≤ s → s ≤ 3 → ∀ i : Nat, (g.has s)[i]? = some true → ∃ (k : Nat) (d : SD), (ix s)[i]? = some k ∧ xs[k]? = some d ∧ (g.sig s)[i]? = some d.sv
  qs : ∀ x ∈ g.qs, 1 ≤ x.st ∧ x.st ≤ 3
  qc : ∀ x ∈ g.qs, q ≤ g.cnt x.st
  ql : g.qs.length ≤ q1 q (g.cnt 1) + q1 q (g.cnt 2) + q1 q (g.cnt 3)
  cs : ∀ x ∈ g.qs, SC xs x.cells
section
variable {n q j fr id s : Nat} {xs : List SD} {g : Gh} {ix : Nat → List Nat} {l : List Int} {d : SD}
theorem GP.qs3 (h : GP n q xs j g ix) : g.qs.length ≤ 3 := by
  have := h.ql
  have := q1_le q (g.cnt 1)
  have := q1_le q (g.cnt 2)
  have := q1_le q (g.cnt 3)
  omega
theorem GP.next (h : GP n q xs j g ix) (b : Bool) : GP n q xs (j + 1) { g with ans := b } ix :=
  ⟨Nat.le_succ_of_le h.fl, h.sl, h.lh, h.li, h.lg, fun s a b => Nat.le_succ_of_le (h.ct s a b), h.sg, h.hi, h.qs, h.qc, h.ql, h.cs⟩
theorem GP.ans (h : GP n q xs j g ix) (b : Bool) : GP n q xs j { g with ans := b } ix :=
  ⟨h.fl, h.sl, h.lh, h.li, h.lg, h.ct, h.sg, h.hi, h.qs, h.qc, h.ql, h.cs⟩
theorem sgn_has' (fr : Int) : (sgn fr id l g).has = g.has := by unfold sgn; split <;> rfl
theorem sgn_cnt' (fr : Int) : (sgn fr id l g).cnt = g.cnt := by unfold sgn; split <;> rfl
theorem sgn_sig' (fr : Int) : (sgn fr id l g).sig = g.sig := by unfold sgn; split <;> rfl
theorem sgn_qs' (fr : Int) : (sgn fr id l g).qs = g.qs := by unfold sgn; split <;> rfl
theorem GP.sgn (h : GP n q xs j g ix) (fr : Int) : GP n q xs (j + 1) (sgn fr id l g) ix := by
  refine ⟨?_, ?_, by rw [sgn_has']; exact h.lh, h.li, by rw [sgn_sig']; exact h.lg, by rw [sgn_cnt']; exact fun s a b => Nat.le_succ_of_le (h.ct s a b), by rw [sgn_sig']; exact h.sg, by rw [sgn_has', sgn_sig']; exact h.hi, by rw [sgn_qs']; exact h.qs, by rw [sgn_qs', sgn_cnt']; exact h.qc, by rw [sgn_qs', sgn_cnt']; exact h.ql, by rw [sgn_qs']; exact h.cs⟩
  · have := h.fl
    unfold Ga.sgn
    split
    · exact Nat.le_succ_of_le this
    · simpa using this
  · have := h.sl
    unfold Ga.sgn
    split
    · exact this
    · simpa using this
/-- the law's index of a signature -/
def ixS (ix : Nat → List Nat) (s fr j : Nat) : Nat → List Nat := fun t => if t = s then (ix s).set fr j else ix t
theorem GP.add (h : GP n q xs j g ix) (frI : Int) (hd : xs[j]? = some d) (h1 : 1 ≤ s) (h3 : s ≤ 3) (hf : fr < n) (hb : (g.has s)[fr]? = some false) : GP n q xs (j + 1) (addG s fr d.sv (Ga.sgn frI id l g)) (ixS ix s fr j) := by
  have k := h.sgn (id := id) (l := l) frI
  have e1 : (Ga.sgn frI id l g).has = g.has := sgn_has' _
  have e2 : (Ga.sgn frI id l g).cnt = g.cnt := sgn_cnt' _
  have e3 : (Ga.sgn frI id l g).sig = g.sig := sgn_sig' _
  have e4 : (Ga.sgn frI id l g).qs = g.qs := sgn_qs' _
  have mono : ∀ t, g.cnt t ≤ (addG s fr d.sv (Ga.sgn frI id l g)).cnt t := fun t => by
    simp only [addG, e2]
    split
    · rename_i e; subst e; omega
    · omega
  refine ⟨k.fl, k.sl, fun t a b => ?_, fun t a b => ?_, fun t a b => ?_, fun t a b => ?_, fun t a b v hv => ?_, fun t a b i hi => ?_, by simpa [addG, e4] using h.qs, fun x hx => ?_, ?_, by simpa [addG, e4] using h.cs⟩
  · simp only [addG, e1]
    split
    · simpa using h.lh s h1 h3
    · exact h.lh t a b
  · unfold ixS
    split
    · simpa using h.li s h1 h3
    · exact h.li t a b
  · simp only [addG, e3]
    split
    · simpa using h.lg s h1 h3
    · exact h.lg t a b
  · simp only [addG, e2]
    split
    · exact Nat.succ_le_succ (h.ct s h1 h3)
    · exact Nat.le_succ_of_le (h.ct t a b)
  · simp only [addG, e3] at hv
    split at hv
    · rcases List.mem_or_eq_of_mem_set hv with hv | rfl
      · exact h.sg s h1 h3 v hv
      · exact ⟨_, _, _, rfl⟩
    · exact h.sg t a b v hv
  · simp only [addG, e1, e3] at hi ⊢
    unfold ixS
    by_cases e : t = s
    · rw [if_pos e] at hi ⊢
      rw [if_pos e]
      by_cases ei : i = fr
      · subst ei
        refine ⟨j, d, ?_, hd, ?_⟩
        · rw [List.getElem?_set_self (by rw [h.li s h1 h3]; exact hf)]
        · rw [List.getElem?_set_self (by rw [h.lg s h1 h3]; exact hf)]
      · rw [List.getElem?_set_ne (Ne.symm ei)] at hi ⊢
        rw [List.getElem?_set_ne (Ne.symm ei)]
        exact h.hi s h1 h3 i hi
    · rw [if_neg e] at hi ⊢
      rw [if_neg e]
      exact h.hi t a b i hi
  · have hx' : x ∈ g.qs := by simpa [addG, e4] using hx
    exact Nat.le_trans (h.qc x hx') (mono _)
  · have : (addG s fr d.sv (Ga.sgn frI id l g)).qs = g.qs := e4
    rw [this]
    have := h.ql
    have := q1_mono (q := q) (mono 1)
    have := q1_mono (q := q) (mono 2)
    have := q1_mono (q := q) (mono 3)
    omega
theorem GP.quo (h : GP n q xs j g ix) (frI : Int) (hd : xs[j]? = some d) (h1 : 1 ≤ s) (h3 : s ≤ 3) (hf : fr < n) (hb : (g.has s)[fr]? = some false) (hq : g.cnt s + 1 = q) (x : Q) (hx : x.st = s)
    (hc : x.cells = sigL 0 ((addG s fr d.sv (Ga.sgn frI id l g)).has s) ((addG s fr d.sv (Ga.sgn frI id l g)).sig s)) :
    GP n q xs (j + 1) { (addG s fr d.sv (Ga.sgn frI id l g)) with qs := (addG s fr d.sv (Ga.sgn frI id l g)).qs ++ [x] } (ixS ix s fr j) := by
  have k := h.add (id := id) (l := l) frI hd h1 h3 hf hb
  have e2 : (Ga.sgn frI id l g).cnt = g.cnt := sgn_cnt' _
  have e4 : (addG s fr d.sv (Ga.sgn frI id l g)).qs = g.qs := sgn_qs' _
  have es : (addG s fr d.sv (Ga.sgn frI id l g)).cnt s = g.cnt s + 1 := by simp [addG, e2]
  have mono : ∀ t, g.cnt t ≤ (addG s fr d.sv (Ga.sgn frI id l g)).cnt t := fun t => by
    simp only [addG, e2]
    split
    · rename_i e; subst e; omega
    · omega
  refine ⟨k.fl, k.sl, k.lh, k.li, k.lg, k.ct, k.sg, k.hi, fun y hy => ?_, fun y hy => ?_, ?_, fun y hy => ?_⟩
  · rcases List.mem_append.1 hy with hy | hy
    · exact k.qs y hy
    · obtain rfl := List.mem_singleton.1 hy
      omega
  · rcases List.mem_append.1 hy with hy | hy
    · exact k.qc y hy
    · obtain rfl := List.mem_singleton.1 hy
      show q ≤ (addG s fr d.sv (Ga.sgn frI id l g)).cnt y.st
      rw [hx, es]
      omega
  · show ((addG s fr d.sv (Ga.sgn frI id l g)).qs ++ [x]).length ≤ q1 q ((addG s fr d.sv (Ga.sgn frI id l g)).cnt 1) + q1 q ((addG s fr d.sv (Ga.sgn frI id l g)).cnt 2) + q1 q ((addG s fr d.sv (Ga.sgn frI id l g)).cnt 3)
    rw [e4, List.length_append, List.length_singleton]
    have a0 := h.ql
    have a1 := q1_mono (q := q) (mono 1)
    have a2 := q1_mono (q := q) (mono 2)
    have a3 := q1_mono (q := q) (mono 3)
    have a4 : q1 q (g.cnt s) = 0 := by unfold q1; rw [if_neg (by omega)]
    have a5 : q1 q ((addG s fr d.sv (Ga.sgn frI id l g)).cnt s) = 1 := by unfold q1; rw [es, if_pos (by omega)]
    rcases (by omega : s = 1 ∨ s = 2 ∨ s = 3) with e | e | e <;> subst e <;> omega
  · rcases List.mem_append.1 hy with hy | hy
    · exact k.cs y hy
    · obtain rfl := List.mem_singleton.1 hy
      rw [hc]
      exact sigL_sc _ _ _ (fun i hi => by
        obtain ⟨k', d', _, a2, a3⟩ := k.hi s h1 h3 i hi
        exact ⟨d', List.mem_of_getElem? a2, a3⟩)
end
end Go.Proofs.Ybulkcsck.Ga
