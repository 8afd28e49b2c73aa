/-
  OWN TEXT. LawS4690BCounts: the row.
-/
import Derived.Test.YbulkcsckObB
import Derived.ProofKit
import Derived.OpenShut
import Derived.ChangeSlices
namespace Go.Proofs.Ybulkcsck.Counts
open Go.ChangeShapes Go.WideShapes Go.ChangeAt Go.RowKit Go.Proofs.Ybulkcsck.Ob

theorem own : ownKnob Yba.prog.godebug = none := by kernel_rfl
theorem laidOut : laidOutB Yba.prog = true := by kernel_rfl
theorem cells37 : Yba.prog.cellsOf 37 = 1 := by kernel_rfl

theorem add_none {a : Addr} {w : World} {v : Value} (h : w.cell? (a.add 0) = some v) : a.spot = none := by
  have e : a.add 0 = a := by simp [Addr.add]
  rw [e] at h
  unfold World.cell? at h
  split at h
  · split at h
    · cases h
    · rename_i hn
      simpa using hn
  · cases h

set_option maxRecDepth 100000 in
theorem open_frames {H : Type} {enc : TypeId × Value → H} {W : World} {base b0 : Nat} {r : Reach} {spare : Nat → Bool} {held : Bool} {v : Value} {d : DataW H} {p : List MemPlace} (hv : Value.okWide Yba.prog W r b0 76 v) (h : DataW.Trod enc Yba.prog W base spare held 76 v d p) :
    v = .slice none 0 0 ∨ ∃ a l k, v = .slice (some a) l k ∧ (l = 0 ∨ ∃ b o vs, a = ⟨b, o, none⟩ ∧ vs.length = l ∧ W.rangeAt b o vs ∧ (∀ x ∈ vs, ∃ p m q, x = .slice p m q) ∧ b < W.heap.size) := by
  obtain ⟨a, l, k, rfl⟩ := okWide_slice Yba.underlying76 hv
  obtain ⟨fuel, hf⟩ := h
  rcases DataW.trod_slice Yba.underlying76 hf with ⟨h0, _⟩ | ⟨a', l', k', elems, rest, n, _, hcs, hx, _, _, _, hlen, hel, _⟩
  · simp only [Value.cells, List.cons.injEq, and_true] at h0
    exact Or.inl h0
  · simp only [Value.cells, List.cons.injEq, and_true] at hcs
    right
    refine ⟨a', l', k', hcs, ?_⟩
    by_cases hl : l' = 0
    · exact Or.inl hl
    · right
      have each : ∀ i, i < l' → ∃ x, W.cell? (a'.add i) = some x ∧ ∃ p m q, x = .slice p m q := by
        intro i hi
        have hE := hel i hi
        rw [cells37, Nat.mul_one, List.getElem?_eq_getElem (by omega), Option.bind_eq_some_iff] at hE
        obtain ⟨cs', hcs', hy⟩ := hE
        rcases DataW.trod_slice Yba.underlying37 hy with ⟨rfl, _⟩ | ⟨p, m, q, _, _, _, _, rfl, _⟩
        · exact ⟨_, cell_of_cells?_one hcs', none, 0, 0, rfl⟩
        · exact ⟨_, cell_of_cells?_one hcs', some p, m, q, rfl⟩
      obtain ⟨x0, h0, _⟩ := each 0 (by omega)
      have hs := add_none h0
      obtain ⟨b, o, sp⟩ := a'
      simp only at hs
      subst hs
      have hadd : ∀ j, (⟨b, o, none⟩ : Addr).add j = ⟨b, o + j, none⟩ := fun j => by unfold Addr.add; split <;> simp_all
      refine ⟨b, o, (List.range l').map fun i => (W.cell? ⟨b, o + i, none⟩).getD undef, rfl, by simp, ?_, ?_, ?_⟩
      · intro j v hj
        simp only [List.getElem?_map, Option.map_eq_some_iff] at hj
        obtain ⟨j', hj', rfl⟩ := hj
        obtain ⟨hlt, rfl⟩ := List.getElem?_eq_some_iff.1 hj'
        simp only [List.length_range] at hlt
        simp only [List.getElem_range]
        obtain ⟨x, hx, _⟩ := each j hlt
        rw [hadd] at hx
        rw [hx]
        rfl
      · intro x hx
        simp only [List.mem_map, List.mem_range] at hx
        obtain ⟨i, hi, rfl⟩ := hx
        obtain ⟨x, hx, hsl⟩ := each i hi
        rw [hadd] at hx
        rw [hx]
        exact hsl
      · rw [hadd] at h0
        unfold World.cell? at h0
        split at h0
        · rename_i he
          exact (Array.getElem?_eq_some_iff.1 he).1
        · cases h0

set_option maxRecDepth 100000 in
theorem lifted (os : Os) (started : os.Started) (H : Type) (enc : TypeId × Value → H) :
    ReturnsInHanded {} Yba.checked os 4 .any (Rows.lawS4690BCountsSpec.pre6 enc Yba.prog Yba.f4 Rows.lawS4690BCountsRow.domain false) (Rows.lawS4690BCountsSpec.post enc Yba.prog Yba.f4 false true false false) := by
  refine returnsInHanded_of_change (C := Yba.checked) own started (by kernel_rfl) Yba.func4
    (ChangeSpec.witness6 (enc := enc) (C := Yba.checked) false ⟨#[], #[.slice none 0 0], []⟩ 8 (by kernel_rfl) (by kernel_rfl) (by kernel_rfl) (by kernel_rfl)) ?_
  intro W base args ds gs before hval0 hW hcnd _
  have hval : ∀ (j : Nat) t v, Yba.f4.params[j]? = some t → args[j]? = some v → Value.okWide Yba.prog W .any base t v := hval0
  have hW' := hW
  obtain ⟨p, q, hA0, hV, rfl, hfz, hnd⟩ := hW
  have hA : DataW.TrodAll enc Yba.prog W 0 (fun _ => true) true Yba.f4.params.toList args.toList ds p := hA0
  rw [Yba.params4] at hA hval
  obtain ⟨v0, vs0, d0, ds0, p0, q0, hargs, rfl, rfl, h0, r0⟩ := trodAll_cons hA
  obtain ⟨rfl, rfl, rfl⟩ := trodAll_nil r0
  obtain rfl : args = #[v0] := by cases args; simp_all
  obtain ⟨rfl, rfl⟩ := trodVars_none hV
  have k0 := h0
  have lt0 : ∀ x ∈ p0, x.block < W.heap.size := by obtain ⟨m, hm⟩ := k0; exact DataW.trod_lt m _ _ _ hm
  have opened := open_frames (hval 0 76 v0 rfl rfl) h0
  clear hA0 hval0
  have walk : Calls Yba.prog 4 #[v0] W fun e w' => e = .returned (.bool true) ∧ Below W.heap.size W w' := by
    rcases opened with rfl | ⟨a, l, k, rfl, hl⟩
    · exact counts_nil W
    · by_cases hbig : 4096 < l
      · exact counts_big _ l k W hbig
      · rcases hl with rfl | ⟨b, o, vs, rfl, hv, hc, hs, hb⟩
        · exact counts_zero a k W
        · exact counts_some b o l k vs W (by omega) hv hc hs hb
  refine walk.mono fun e W' ⟨he, bel⟩ => ?_
  subst he
  exact ⟨_, rfl, _, _, _, [], _, [], hW', trodAll_mk1 (shut_bool Yba.underlying4 _), (trodAll_cons_mk (Below.trod laidOut (by kernel_rfl) (of_decide_eq_true (by kernel_rfl)) k0 bel lt0) trodAll_mk0), rfl, bel.frame _, fun h => by cases h⟩

theorem over : Rows.lawS4690BCountsRow.holds Yba.pinned (OpenSpec.ofChange Rows.lawS4690BCountsSpec) :=
  OpenClaim.holds_of_wide 4 Yba.f4 rfl rfl rfl rfl rfl rfl rfl ⟨rfl, rfl, rfl, rfl, rfl⟩ rfl rfl rfl rfl rfl (by kernel_rfl) Yba.func4 (by kernel_rfl)
    (of_decide_eq_true (by kernel_rfl)) (by unfold Func.isWrapper; first | (rw [if_pos (by decide +kernel)]; kernel_rfl) | (rw [if_neg (by decide +kernel)]; exact ⟨rfl, rfl⟩))
    (fun os started H enc _ => lifted os started H enc)

/-- THE STATEMENT -/
theorem proved : Rows.LawS4690BCountsSaid := over
end Go.Proofs.Ybulkcsck.Counts
