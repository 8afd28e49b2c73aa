/-
  OWN TEXT. slices.Equal and the hook's sameList at any two slices; the clone.
-/
import Derived.Test.YbulkcsgeA
import Derived.Laws.MakeOwn
import Derived.Laws.OwnMore
import Derived.Laws.CopyOwn
namespace Go.Proofs.Ybulkcsge
open Go.RowKit

theorem SV.shape {w : World} {v : Value} {n : Bool} {l : List ByteArray} (h : SV w v n l) : ∃ p c, v = .slice p l.length c := by
  cases h with
  | nil => exact ⟨_, _, rfl⟩
  | empty a c => exact ⟨_, _, rfl⟩
  | some b o c l hr hl => exact ⟨_, _, rfl⟩

set_option maxRecDepth 100000 in
theorem equal_lens (p p' : Option Addr) (n n' c c' : Nat) (A : Prop) (w : World) (h : n ≠ n') (hA : ¬ A) :
    Calls Yba.prog 9 #[.slice p n c, .slice p' n' c'] w (Ans w A) := by
  have h' : ¬ (n : Int) = (n' : Int) := by omega
  go_enter Yba.func9, Yba.ntmps9
  go_wp2
  go_ret
  exact Ans.no hA (Below.refl _ _)
set_option maxRecDepth 100000 in
theorem equal_zero (p p' : Option Addr) (c c' : Nat) (A : Prop) (w : World) (hA : A) :
    Calls Yba.prog 9 #[.slice p 0 c, .slice p' 0 c'] w (Ans w A) := by
  have hA' : Hid A := hA
  clear hA
  go_enter Yba.func9, Yba.ntmps9
  go_wp2
  refine wp_loop_rounds 1 ?_
  rw [rounds_succ]
  go_wp2
  go_ret
  exact Ans.yes hA'.out (Below.refl _ _)

theorem equal_any (v v' : Value) (n n' : Bool) (l l' : List ByteArray) (w : World) (h : SV w v n l) (h' : SV w v' n' l') (hl : l.length ≤ 2000) :
    Calls Yba.prog 9 #[v, v'] w (Ans w (l = l')) := by
  by_cases hlen : l.length = l'.length
  · by_cases hz : l.length = 0
    · obtain ⟨p, c, rfl⟩ := h.shape
      obtain ⟨p', c', rfl⟩ := h'.shape
      have e1 : l = [] := List.length_eq_zero_iff.1 hz
      have e2 : l' = [] := List.length_eq_zero_iff.1 (by omega)
      subst e1 e2
      exact equal_zero p p' c c' _ w rfl
    · cases h with
      | nil => exact absurd rfl hz
      | empty => exact absurd rfl hz
      | some b o c l hr hb =>
        cases h' with
        | nil => exact absurd hlen hz
        | empty => exact absurd hlen hz
        | some b' o' c' l' hr' hb' =>
          have := equal_rows b o c b' o' c' l.length l l' w hl rfl hlen.symm hr hr' hb hb'
          rw [← hlen]
          exact this
  · obtain ⟨p, c, rfl⟩ := h.shape
    obtain ⟨p', c', rfl⟩ := h'.shape
    exact equal_lens p p' _ _ c c' _ w hlen (fun e => hlen (by rw [e]))

/-- is the slice nil? -/
theorem eql_nil {w : World} {v : Value} {n : Bool} {l : List ByteArray} (h : SV w v n l) (w' : World) : (binOp .eql 22 v (.slice none 0 0)).run Yba.prog w' = .ok (.bool n) w' := by
  cases h with
  | nil => exact Lib.run_eql_slice_nil _ _ 9 _ _ _ _ _ Yba.underlying22
  | empty a c => exact Lib.run_eql_slice_nil _ _ 9 _ _ _ _ _ Yba.underlying22
  | some b o c l hr hl => exact Lib.run_eql_slice_nil _ _ 9 _ _ _ _ _ Yba.underlying22

set_option maxRecDepth 100000 in
set_option maxHeartbeats 800000 in
/-- sameList -/
theorem same_any (v v' : Value) (n n' : Bool) (l l' : List ByteArray) (w : World) (h : SV w v n l) (h' : SV w v' n' l') (hl : l.length ≤ 2000) :
    Calls Yba.prog 8 #[v, v'] w (Ans w (n = n' ∧ l = l')) := by
  have e1 := eql_nil h
  have e2 := eql_nil h'
  have hc : Hid (Calls Yba.prog 9 #[v, v'] w (Ans w (l = l'))) := equal_any v v' n n' l l' w h h' hl
  obtain ⟨p, c, rfl⟩ := h.shape
  obtain ⟨p', c', rfl⟩ := h'.shape
  clear h h'
  generalize l.length = N at *
  generalize l'.length = N' at *
  by_cases hn : n = n'
  · subst hn
    cases n
    · go_enter Yba.func8, Yba.ntmps8
      go_wp2_with (go_at_call 9; refine (hc.out).mono ?_; rintro e w2 ⟨r, rfl, hr, hb⟩; have HR : Hid (r = true ↔ l = l') := hr; clear hr)
      go_ret
      exact ⟨r, rfl, by rw [HR.out]; simp, hb⟩
    · go_enter Yba.func8, Yba.ntmps8
      go_wp2_with (go_at_call 9; refine (hc.out).mono ?_; rintro e w2 ⟨r, rfl, hr, hb⟩; have HR : Hid (r = true ↔ l = l') := hr; clear hr)
      go_ret
      exact ⟨r, rfl, by rw [HR.out]; simp, hb⟩
  · cases n <;> cases n' <;> first
      | exact absurd rfl hn
      | (clear hn; go_enter Yba.func8, Yba.ntmps8; go_wp2; go_ret; exact Ans.no (fun h => Bool.noConfusion h.1) (Below.refl _ _))

/-- a slice that a clone has made -/
def Own (B : Nat) (w' : World) (v' : Value) (n : Bool) (l : List ByteArray) : Prop :=
  (n = true ∧ v' = .slice none 0 0 ∧ l = []) ∨ (n = false ∧ ∃ g, B ≤ g ∧ v' = .slice (some ⟨g, 0, none⟩) l.length l.length ∧ w'.heap[g]? = some (.cells (l.map Value.string).toArray 9 (0, 0)))
theorem range_block {w : World} {g : Nat} {L : List Value} {t : TypeId} {f : Nat × Nat} (h : w.heap[g]? = some (.cells L.toArray t f)) : w.rangeAt g 0 L := by
  intro j v hj
  simp [World.cell?, h, hj]
theorem Own.sv {B : Nat} {w' : World} {v' : Value} {n : Bool} {l : List ByteArray} (h : Own B w' v' n l) : SV w' v' n l := by
  rcases h with ⟨rfl, rfl, rfl⟩ | ⟨rfl, g, hg, rfl, hb⟩
  · exact .nil
  · exact .some g 0 _ l (range_block hb) (Array.getElem?_eq_some_iff.1 hb).1
theorem Own.below {B : Nat} {w w' : World} {v' : Value} {n : Bool} {l : List ByteArray} (h : Own B w v' n l) (hb : Below w.heap.size w w') : Own B w' v' n l := by
  rcases h with h | ⟨rfl, g, hg, rfl, hk⟩
  · exact .inl h
  · exact .inr ⟨rfl, g, hg, rfl, (hb.block g (Array.getElem?_eq_some_iff.1 hk).1).trans hk⟩
theorem Own.mono {B B' : Nat} {w : World} {v' : Value} {n : Bool} {l : List ByteArray} (h : Own B w v' n l) (hb : B' ≤ B) : Own B' w v' n l := by
  rcases h with h | ⟨rfl, g, hg, rfl, hk⟩
  · exact .inl h
  · exact .inr ⟨rfl, g, Nat.le_trans hb hg, rfl, hk⟩

theorem info9 : ∃ i, Yba.prog.info? 9 = some i ∧ i.zero = some (.string ⟨#[]⟩) ∧ i.size = 1 ∧ i.bytes = 16 := by
  have h : (Yba.prog.info? 9).map (fun i => (i.size, i.bytes)) = some (1, 16) := by kernel_rfl
  have h2 : (Yba.prog.info? 9).bind (·.zero) = some (.string ⟨#[]⟩) := by kernel_rfl
  obtain ⟨i, hi, hb⟩ := Option.map_eq_some_iff.1 h
  rw [hi] at h2
  simp only [Prod.mk.injEq] at hb
  exact ⟨i, hi, h2, hb.1, hb.2⟩
theorem make22 (w : World) (l : Nat) (hl : l ≤ 4096) : ∃ Z : List Value, Z.length = l ∧
    (Instr.makeSlice 22 (.int .i64 (l : Int)) (.int .i64 (l : Int))).run Yba.prog w = .ok (.slice (some ⟨w.heap.size, 0, none⟩) l l) (w.alloc (.cells Z.toArray 9)) := by
  obtain ⟨i, hi, hz, hs, hb⟩ := info9
  have h := run_make (P := Yba.prog) w 22 9 i _ Yba.underlying22 hi hz .i64 .i64 l l (by omega) (by omega) (by rw [hb]; omega) (by omega)
  refine ⟨(madeCells (Value.string ⟨#[]⟩).cells ((l : Int).toNat * i.size)).toList, ?_, ?_⟩
  · rw [Array.length_toList, size_madeCells, hs]; simp
  · rw [h]; simp
theorem copy22 (ty : TypeId) (w0 w : World) (B g : Nat) (a : Addr) (l k : Nat) (Z vs : List Value) (hg : w.heap[g]? = some (.cells Z.toArray 9 (0, 0))) (hZ : Z.length = l) (hv : vs.length = l)
    (hsrc : ∀ j v, vs[j]? = some v → w.cell? (a.add j) = some v) (h1 : ∀ v ∈ vs, v.oneCell' = true) (hb : Below B w0 w) (hB : B ≤ g) :
    ∃ w', (Builtin.copy_ #[22, 22] ty #[.slice (some ⟨g, 0, none⟩) l l, .slice (some a) l k]).run Yba.prog w = .ok (goInt l) w' ∧ w'.heap[g]? = some (.cells vs.toArray 9 (0, 0)) ∧ Below B w0 w' := by
  have h := run_copy_row (P := Yba.prog) w 22 22 ty 9 g 0 l l a l k Z.toArray 9 vs Yba.underlying22 (by kernel_rfl) hg (by simp [hv]) hsrc (by simp; omega) h1
  rw [show goInt (vs.length : Int) = goInt (l : Int) by rw [hv]] at h
  refine ⟨_, h, ?_, below_setRow hb hB _⟩
  have e : (Z.toArray.toList.take 0 ++ vs ++ Z.toArray.toList.drop (0 + vs.length)) = vs := by
    rw [List.drop_eq_nil_of_le (by simp; omega)]
    simp
  rw [e]
  exact setRow_heap w g _ _ 9 _ hg

/-- what the clone answers -/
def Cloned (w : World) (n : Bool) (l : List ByteArray) (e : Ending) (w' : World) : Prop := ∃ v', e = .returned v' ∧ Below w.heap.size w w' ∧ Own w.heap.size w' v' n l

set_option maxRecDepth 100000 in
set_option maxHeartbeats 800000 in
theorem clone_any (v : Value) (n : Bool) (l : List ByteArray) (w : World) (h : SV w v n l) (hl : l.length ≤ 2000) :
    Calls Yba.prog 7 #[v] w (Cloned w n l) := by
  have e1 := eql_nil h
  cases h with
  | nil =>
    go_enter Yba.func7, Yba.ntmps7
    go_wp2
    go_ret
    exact ⟨_, rfl, Below.refl _ _, .inl ⟨rfl, rfl, rfl⟩⟩
  | empty a k =>
    obtain ⟨Z, hZ, hmk⟩ := make22 w 0 (by omega)
    have eZ : Z = [] := List.length_eq_zero_iff.1 hZ
    subst eZ
    rw [show ((0 : Nat) : Int) = 0 from rfl] at hmk
    obtain ⟨w1, e1'⟩ : ∃ w1, w1 = w.alloc (.cells ([] : List Value).toArray 9) := ⟨_, rfl⟩
    have bel1 : Below w.heap.size w w1 := by rw [e1']; exact (Below.refl _ w).alloc (Nat.le_refl _) _
    have hg : w1.heap[w.heap.size]? = some (.cells ([] : List Value).toArray 9 (0, 0)) := by rw [e1']; exact heap_alloc_new w _
    rw [← e1'] at hmk
    have B1 : Hid (Below w.heap.size w w1) := bel1
    have G1 : Hid _ := hg
    have hcp := run_copy_none (P := Yba.prog) w1 22 22 3 9 (some ⟨w.heap.size, 0, none⟩) (some a) 0 0 0 k Yba.underlying22 (by kernel_rfl) rfl
    clear e1' bel1 hg hZ
    go_enter Yba.func7, Yba.ntmps7
    go_wp2
    go_ret
    exact ⟨_, rfl, B1.out, .inr ⟨rfl, _, Nat.le_refl _, rfl, G1.out⟩⟩
  | some b o k l hr hb =>
    obtain ⟨Z, hZ, hmk⟩ := make22 w l.length (by omega)
    obtain ⟨w1, e1'⟩ : ∃ w1, w1 = w.alloc (.cells Z.toArray 9) := ⟨_, rfl⟩
    have hg : w1.heap[w.heap.size]? = some (.cells Z.toArray 9 (0, 0)) := by rw [e1']; exact heap_alloc_new w _
    have bel1 : Below w.heap.size w w1 := by rw [e1']; exact (Below.refl _ w).alloc (Nat.le_refl _) _
    rw [← e1'] at hmk
    have hsrc : ∀ j v, (l.map Value.string)[j]? = some v → w1.cell? ((⟨b, o, none⟩ : Addr).add j) = some v := fun j v hj => by
      have : (⟨b, o, none⟩ : Addr).add j = ⟨b, o + j, none⟩ := by unfold Addr.add; split <;> simp_all
      rw [this, bel1.cell hb]
      exact hr j v hj
    have h1 : ∀ v ∈ l.map Value.string, v.oneCell' = true := fun v hv => by
      obtain ⟨x, _, rfl⟩ := List.mem_map.1 hv
      rfl
    obtain ⟨w2, hcp, hg2, bel2⟩ := copy22 3 w w1 w.heap.size w.heap.size ⟨b, o, none⟩ l.length k Z (l.map Value.string) hg hZ (by simp) hsrc h1 bel1 (Nat.le_refl _)
    have B2 : Hid (Below w.heap.size w w2) := bel2
    have G2 : Hid _ := hg2
    clear e1' bel1 hg hZ hsrc h1 hg2 bel2 hr
    generalize hn : l.length = N at *
    have HN : Hid (l.length = N) := hn
    clear hn
    go_enter Yba.func7, Yba.ntmps7
    go_wp2
    go_ret
    exact ⟨_, rfl, B2.out, .inr ⟨rfl, _, Nat.le_refl _, congrArg (fun k => Value.slice (some ⟨w.heap.size, 0, none⟩) k k) HN.out.symm, G2.out⟩⟩
end Go.Proofs.Ybulkcsge
