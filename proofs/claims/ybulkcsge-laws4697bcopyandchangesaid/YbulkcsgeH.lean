/-
  OWN TEXT. LawS4697BCopyAndChange: the row.
-/
import Derived.Test.YbulkcsgeG
import Derived.Test.YbulkcsgeG2
import Derived.ProofKit
import Derived.OpenShut
import Derived.ChangeSlices
import Derived.SizedLaws
namespace Go.Proofs.Ybulkcsge.Copy
open Go.ChangeShapes Go.WideShapes Go.ChangeAt Go.RowKit

theorem own : ownKnob Yba.prog.godebug = none := by kernel_rfl
theorem laidOut : laidOutB Yba.prog = true := by kernel_rfl
theorem cells9 : Yba.prog.cellsOf 9 = 1 := by kernel_rfl
theorem cells3 : Yba.prog.cellsOf 3 = 1 := by kernel_rfl

theorem u8_range {n : Int} (h : (Lit.int .u8 n).wf = true) : 0 ≤ n ∧ n ≤ 255 := by
  simp [Lit.wf, IntKind.min, IntKind.max, IntKind.signed, IntKind.bits] at h
  omega

theorem cell_lt {w : World} {b i : Nat} {v : Value} (h : w.cell? ⟨b, i, none⟩ = some v) : b < w.heap.size := World.block_lt_of_cell? w ⟨b, i, none⟩ h
theorem spot_none {a : Addr} {w : World} {v : Value} (h : w.cell? a = some v) : a.spot = none := by
  unfold World.cell? at h
  split at h
  · split at h
    · cases h
    · rename_i hn
      simpa using hn
  · cases h
theorem add_zero' (a : Addr) : a.add 0 = a := by simp [Addr.add]

set_option maxRecDepth 100000 in
theorem open_strs {H : Type} {enc : TypeId × Value → H} {W : World} {base b0 : Nat} {r : Reach} {spare : Nat → Bool} {held : Bool} {v : Value} {d : DataW H} {p : List MemPlace} (hv : Value.okWide Yba.prog W r b0 22 v) (h : DataW.Trod enc Yba.prog W base spare held 22 v d p) :
    ∃ q l c n, v = .slice q l.length c ∧ SV W v n l := by
  obtain ⟨a, l, k, rfl⟩ := okWide_slice Yba.underlying22 hv
  obtain ⟨fuel, hf⟩ := h
  rcases DataW.trod_slice Yba.underlying22 hf with ⟨h0, _⟩ | ⟨a', l', k', elems, rest, n, _, hcs, hx, _, _, _, hlen, hel, _⟩
  · simp only [Value.cells, List.cons.injEq, and_true] at h0
    rw [h0]
    exact ⟨none, [], 0, true, rfl, .nil⟩
  · simp only [Value.cells, List.cons.injEq, and_true] at hcs
    rw [hcs]
    by_cases hl : l' = 0
    · subst hl
      exact ⟨_, [], _, false, rfl, .empty _ _⟩
    · have each : ∀ i, i < l' → ∃ x : ByteArray, W.cell? (a'.add i) = some (.string x) := by
        intro i hi
        have hE := hel i hi
        rw [cells9, Nat.mul_one, List.getElem?_eq_getElem (by omega), Option.bind_eq_some_iff] at hE
        obtain ⟨cs', hcs', hy⟩ := hE
        obtain ⟨s, h, _⟩ := DataW.trod_string Yba.underlying9 hy
        subst h
        exact ⟨s, cell_of_cells?_one hcs'⟩
      obtain ⟨x0, h0⟩ := each 0 (by omega)
      rw [add_zero'] at h0
      have hs := spot_none h0
      obtain ⟨b, o, sp⟩ := a'
      simp only at hs
      subst hs
      have hadd : ∀ j, (⟨b, o, none⟩ : Addr).add j = ⟨b, o + j, none⟩ := fun j => by unfold Addr.add; split <;> simp_all
      have hb : b < W.heap.size := cell_lt h0
      let L : List ByteArray := (List.range l').map fun i => match W.cell? ⟨b, o + i, none⟩ with | some (.string x) => x | _ => ⟨#[]⟩
      have hL : L.length = l' := by simp [L]
      refine ⟨some ⟨b, o, none⟩, L, k', false, by rw [hL], ?_⟩
      have : SV W (.slice (some ⟨b, o, none⟩) L.length k') false L := by
        refine .some b o k' L (fun j v hj => ?_) hb
        simp only [L, List.getElem?_map, List.map_map, Option.map_eq_some_iff] at hj
        obtain ⟨j', hj', rfl⟩ := hj
        obtain ⟨hlt, rfl⟩ := List.getElem?_eq_some_iff.1 hj'
        simp only [List.length_range] at hlt
        simp only [List.getElem_range, Function.comp]
        obtain ⟨x, hx⟩ := each j hlt
        rw [hadd] at hx
        rw [hx]
      rw [hL] at this
      exact this

theorem open_ptr {H : Type} {enc : TypeId × Value → H} {W : World} {base b0 : Nat} {r : Reach} {spare : Nat → Bool} {held : Bool} {v : Value} {d : DataW H} {p : List MemPlace} (hv : Value.okWide Yba.prog W r b0 23 v) (h : DataW.Trod enc Yba.prog W base spare held 23 v d p) :
    v = .pointer none ∨ ∃ b o x, v = .pointer (some ⟨b, o, none⟩) ∧ W.cell? ⟨b, o, none⟩ = some (.int .i64 x) ∧ b < W.heap.size := by
  obtain ⟨q, rfl⟩ := okWide_pointer Yba.underlying23 hv
  obtain ⟨fuel, hf⟩ := h
  rcases DataW.trod_pointer Yba.underlying23 hf with ⟨h0, _⟩ | ⟨a, cs', y, n, _, hcs, _, hc, hy⟩
  · simp only [Value.cells, List.cons.injEq, and_true] at h0
    exact .inl h0
  · simp only [Value.cells, List.cons.injEq, and_true] at hcs
    rw [cells3] at hc
    obtain ⟨x, hx, _⟩ := DataW.trod_int Yba.underlying3 hy
    subst hx
    have h1 := cell_of_cells?_one hc
    have hs := spot_none h1
    obtain ⟨b, o, sp⟩ := a
    simp only at hs
    subst hs
    exact .inr ⟨b, o, x, hcs, h1, cell_lt h1⟩

set_option maxRecDepth 100000 in
set_option maxHeartbeats 1600000 in
theorem lifted (os : Os) (started : os.Started) (H : Type) (enc : TypeId × Value → H) :
    ReturnsInHanded {} Yba.checked os 4 .any (Rows.lawS4697BCopyAndChangeSpec.pre6 enc Yba.prog Yba.f4 Rows.lawS4697BCopyAndChangeRow.domain false) (Rows.lawS4697BCopyAndChangeSpec.post enc Yba.prog Yba.f4 false true false false) := by
  refine returnsInHanded_of_change_sized (C := Yba.checked) own started (by kernel_rfl) Yba.func4
    (ChangeSpec.witness6 (enc := enc) (C := Yba.checked) false ⟨#[], #[.string ⟨#[]⟩, .slice none 0 0, .slice none 0 0, .pointer none, .int .u8 1, .int .i64 1], []⟩ 8 (by kernel_rfl) (by kernel_rfl) (by kernel_rfl) (by kernel_rfl)) ?_
  intro W base args ds gs before hval0 hW hcnd hsz0 _
  have hval : ∀ (j : Nat) t v, Yba.f4.params[j]? = some t → args[j]? = some v → Value.okWide Yba.prog W .any base t v := hval0
  have hsz : (DataW.weightsEach Yba.prog (Yba.f4.params.toList ++ Rows.lawS4697BCopyAndChangeSpec.plain.varTypes Yba.prog) (ds ++ gs)).all (· ≤ reachBytes) = true := hsz0
  have hW' := hW
  obtain ⟨p, q, hA0, hV, rfl, hfz, hnd⟩ := hW
  have hA : DataW.TrodAll enc Yba.prog W 0 (fun _ => true) true Yba.f4.params.toList args.toList ds p := hA0
  rw [Yba.params4] at hA hval hsz
  obtain ⟨v0, vs0, d0, ds0, p0, q0, hargs, rfl, rfl, h0, r0⟩ := trodAll_cons hA
  obtain ⟨v1, vs1, d1, ds1, p1, q1, rfl, rfl, rfl, h1, r1⟩ := trodAll_cons r0
  obtain ⟨v2, vs2, d2, ds2, p2, q2, rfl, rfl, rfl, h2, r2⟩ := trodAll_cons r1
  obtain ⟨v3, vs3, d3, ds3, p3, q3, rfl, rfl, rfl, h3, r3⟩ := trodAll_cons r2
  obtain ⟨v4, vs4, d4, ds4, p4, q4, rfl, rfl, rfl, h4, r4⟩ := trodAll_cons r3
  obtain ⟨v5, vs5, d5, ds5, p5, q5, rfl, rfl, rfl, h5, r5⟩ := trodAll_cons r4
  obtain ⟨rfl, rfl, rfl⟩ := trodAll_nil r5
  obtain rfl : args = #[v0, v1, v2, v3, v4, v5] := by cases args; simp_all
  obtain ⟨rfl, rfl⟩ := trodVars_none hV
  have k0 := h0
  have lt0 : ∀ x ∈ p0, x.block < W.heap.size := by obtain ⟨m, hm⟩ := k0; exact DataW.trod_lt m _ _ _ hm
  have k1 := h1
  have lt1 : ∀ x ∈ p1, x.block < W.heap.size := by obtain ⟨m, hm⟩ := k1; exact DataW.trod_lt m _ _ _ hm
  have k2 := h2
  have lt2 : ∀ x ∈ p2, x.block < W.heap.size := by obtain ⟨m, hm⟩ := k2; exact DataW.trod_lt m _ _ _ hm
  have k3 := h3
  have lt3 : ∀ x ∈ p3, x.block < W.heap.size := by obtain ⟨m, hm⟩ := k3; exact DataW.trod_lt m _ _ _ hm
  have k4 := h4
  have lt4 : ∀ x ∈ p4, x.block < W.heap.size := by obtain ⟨m, hm⟩ := k4; exact DataW.trod_lt m _ _ _ hm
  have k5 := h5
  have lt5 : ∀ x ∈ p5, x.block < W.heap.size := by obtain ⟨m, hm⟩ := k5; exact DataW.trod_lt m _ _ _ hm
  obtain ⟨s, rfl⟩ := okWide_string Yba.underlying9 (hval 0 9 v0 rfl rfl)
  have hs0 : s.size ≤ reachBytes := by
    obtain ⟨fuel, hf⟩ := h0
    obtain ⟨s', e1, e2, _⟩ := DataW.trod_string Yba.underlying9 hf
    simp only [Value.cells, List.cons.injEq, Value.string.injEq, and_true] at e1
    subst e1
    have e3 : d0 = .lit (.string s.data.toList) := congrArg Prod.fst e2
    have := sized_string hsz (j := 0) (t := 9) (bytes := s.data.toList) rfl (by rw [e3]; rfl)
    simpa using this
  have hs1 : s.size ≤ 1000000000000000 := Nat.le_trans hs0 (by decide)
  have oa := open_strs (hval 1 22 v1 rfl rfl) h1
  have oe := open_strs (hval 2 22 v2 rfl rfl) h2
  have ot := open_ptr (hval 3 23 v3 rfl rfl) h3
  obtain ⟨sel, rfl, _, _, wsel⟩ := open_int Yba.underlying5 (hval 4 5 v4 rfl rfl) h4
  obtain ⟨k, rfl, _⟩ := open_int Yba.underlying3 (hval 5 3 v5 rfl rfl) h5
  clear hA0 hval0
  have hsel := u8_range wsel
  have walk : Calls Yba.prog 4 #[.string s, v1, v2, v3, .int .u8 sel, .int .i64 k] W fun e w' => e = .returned (.bool true) ∧ Below W.heap.size W w' := by
    obtain ⟨qa, la, ca, na, rfl, sa⟩ := oa
    obtain ⟨qe, le, ce, ne, rfl, se⟩ := oe
    obtain ⟨tp, rfl⟩ := okWide_pointer Yba.underlying23 (hval 3 23 v3 rfl rfl)
    by_cases l1 : la.length ≤ 1024
    · by_cases l2 : le.length ≤ 1024
      · rcases ot with h | ⟨tb, tof, x, h, ht, htb⟩
        · rw [h]
          exact law_nil s qa qe ca ce na ne la le sel k W sa se l1 l2 hs1 hsel
        · rw [h]
          exact law_some s qa qe ca ce na ne la le tb tof x sel k W sa se l1 l2 hs1 hsel ht htb
      · exact long_e s qa qe la.length ca le.length ce tp sel k W l1 (by omega)
    · exact long_a s qa qe la.length ca le.length ce tp sel k W (by omega)
  refine walk.mono fun e W' ⟨he, bel⟩ => ?_
  subst he
  exact ⟨_, rfl, _, _, _, [], _, [], hW', trodAll_mk1 (shut_bool Yba.underlying4 _), (trodAll_cons_mk (Below.trod laidOut (by kernel_rfl) (of_decide_eq_true (by kernel_rfl)) k0 bel lt0) (trodAll_cons_mk (Below.trod laidOut (by kernel_rfl) (of_decide_eq_true (by kernel_rfl)) k1 bel lt1) (trodAll_cons_mk (Below.trod laidOut (by kernel_rfl) (of_decide_eq_true (by kernel_rfl)) k2 bel lt2) (trodAll_cons_mk (Below.trod laidOut (by kernel_rfl) (of_decide_eq_true (by kernel_rfl)) k3 bel lt3) (trodAll_cons_mk (Below.trod laidOut (by kernel_rfl) (of_decide_eq_true (by kernel_rfl)) k4 bel lt4) (trodAll_cons_mk (Below.trod laidOut (by kernel_rfl) (of_decide_eq_true (by kernel_rfl)) k5 bel lt5) trodAll_mk0)))))), rfl, bel.frame _, fun h => by cases h⟩

theorem over : Rows.lawS4697BCopyAndChangeRow.holds Yba.pinned (OpenSpec.ofChange Rows.lawS4697BCopyAndChangeSpec) :=
  OpenClaim.holds_of_wide 4 Yba.f4 rfl rfl rfl rfl rfl rfl rfl ⟨rfl, rfl, rfl, rfl, rfl⟩ rfl rfl rfl rfl rfl (by kernel_rfl) Yba.func4 (by kernel_rfl)
    (of_decide_eq_true (by kernel_rfl)) (by unfold Func.isWrapper; first | (rw [if_pos (by decide +kernel)]; kernel_rfl) | (rw [if_neg (by decide +kernel)]; exact ⟨rfl, rfl⟩))
    (fun os started H enc _ => lifted os started H enc)

/-- THE STATEMENT -/
theorem proved : Rows.LawS4697BCopyAndChangeSaid := over
end Go.Proofs.Ybulkcsge.Copy
