/-
  OWN TEXT. LawS4690BScript: the row.
-/
import Derived.Test.YbulkcsckObG
import Derived.ProofKit
import Derived.OpenShut
import Derived.ChangeSlices
namespace Go.Proofs.Ybulkcsck.Script
open Go.ChangeShapes Go.WideShapes Go.ChangeAt Go.RowKit Go.Proofs.Ybulkcsck.Ob

theorem own : ownKnob Yba.prog.godebug = none := by kernel_rfl
theorem laidOut : laidOutB Yba.prog = true := by kernel_rfl
theorem cells92 : Yba.prog.cellsOf 92 = 2 := by kernel_rfl
theorem cells5 : Yba.prog.cellsOf 5 = 1 := by kernel_rfl

theorem u8_range {n : Int} (h : (Lit.int .u8 n).wf = true) : 0 ≤ n ∧ n ≤ 255 := by
  simp [Lit.wf, IntKind.min, IntKind.max, IntKind.signed, IntKind.bits] at h
  omega

theorem add_none {a : Addr} {w : World} {v : Value} (h : w.cell? (a.add 0) = some v) : a.spot = none := by
  have e : a.add 0 = a := by simp [Addr.add]
  rw [e] at h
  unfold World.cell? at h
  split at h
  · split at h
    · cases h
    · rename_i hn
      simpa using hn
  · cases h

theorem two_cells {w : World} {base : Nat} {a : Addr} {cs : List Value} (h : w.cells? base a 2 = some cs) : ∃ x y, cs = [x, y] ∧ w.cell? (a.add 0) = some x ∧ w.cell? (a.add 1) = some y := by
  unfold World.cells? at h
  split at h
  · simp only [List.range_succ, List.range_zero, List.nil_append, List.mapM_cons, List.mapM_nil, List.cons_append] at h
    cases h0 : w.cell? (a.add 0) with
    | none => simp [h0] at h
    | some x =>
      cases h1 : w.cell? (a.add 1) with
      | none => simp [h0, h1] at h
      | some y =>
        simp [h0, h1] at h
        exact ⟨x, y, h.symm, rfl, rfl⟩
  · cases h

set_option maxRecDepth 100000 in
theorem open_ops {H : Type} {enc : TypeId × Value → H} {W : World} {base b0 : Nat} {r : Reach} {spare : Nat → Bool} {held : Bool} {v : Value} {d : DataW H} {p : List MemPlace} (hv : Value.okWide Yba.prog W r b0 90 v) (h : DataW.Trod enc Yba.prog W base spare held 90 v d p) :
    ∃ q l k, v = .slice q l k ∧ ∀ j : Nat, j < l → ∃ b o x y, q = some ⟨b, o, none⟩ ∧ b < W.heap.size ∧ W.cell? ⟨b, o + j * 2, none⟩ = some (.int .u8 x) ∧ W.cell? ⟨b, o + j * 2 + 1, none⟩ = some (.int .u8 y) ∧ 0 ≤ x ∧ x ≤ 255 ∧ 0 ≤ y ∧ y ≤ 255 := by
  obtain ⟨a, l, k, rfl⟩ := okWide_slice Yba.underlying90 hv
  obtain ⟨fuel, hf⟩ := h
  rcases DataW.trod_slice Yba.underlying90 hf with ⟨h0, _⟩ | ⟨a', l', k', elems, rest, n, _, hcs, hx, _, _, _, hlen, hel, _⟩
  · simp only [Value.cells, List.cons.injEq, and_true, Value.slice.injEq] at h0
    obtain ⟨rfl, rfl, rfl⟩ := h0
    exact ⟨none, 0, 0, rfl, fun j hj => absurd hj (Nat.not_lt_zero _)⟩
  · simp only [Value.cells, List.cons.injEq, and_true, Value.slice.injEq] at hcs
    obtain ⟨rfl, rfl, rfl⟩ := hcs
    have each : ∀ i, i < l → ∃ x y, W.cell? ((a'.add (i * 2)).add 0) = some (.int .u8 x) ∧ W.cell? ((a'.add (i * 2)).add 1) = some (.int .u8 y) ∧ 0 ≤ x ∧ x ≤ 255 ∧ 0 ≤ y ∧ y ≤ 255 := by
      intro i hi
      have hE := hel i hi
      rw [cells92, List.getElem?_eq_getElem (by omega), Option.bind_eq_some_iff] at hE
      obtain ⟨cs', hcs', hy⟩ := hE
      obtain ⟨c0, c1, rfl, e0, e1⟩ := two_cells hcs'
      obtain ⟨xs, m, _, _, _, hxl, hfs⟩ := DataW.trod_struct Yba.underlying92 hy
      have hxl' : xs.length = 2 := hxl
      have f0 := hfs 0 { name := "Op", type := 5, offset := 0, embedded := false, tag := "", pkgPath := "", byteOffset := 0 } rfl
      have f1 := hfs 1 { name := "N", type := 5, offset := 1, embedded := false, tag := "", pkgPath := "", byteOffset := 1 } rfl
      simp only [cells5, List.drop_zero, List.drop_succ_cons, List.take_succ_cons, List.take_zero] at f0 f1
      rw [List.getElem?_eq_getElem (by omega)] at f0 f1
      obtain ⟨x, g0, _, w0⟩ := DataW.trod_int Yba.underlying5 f0
      obtain ⟨y, g1, _, w1⟩ := DataW.trod_int Yba.underlying5 f1
      simp only [List.cons.injEq, and_true] at g0 g1
      subst g0
      subst g1
      have r0 := u8_range w0
      have r1 := u8_range w1
      exact ⟨x, y, e0, e1, r0.1, r0.2, r1.1, r1.2⟩
    refine ⟨some a', l, k, rfl, fun j hj => ?_⟩
    obtain ⟨x0, y0, h0, _⟩ := each 0 (by omega)
    rw [show a'.add (0 * 2) = a' by simp [Addr.add]] at h0
    have hs := add_none h0
    obtain ⟨b, o, sp⟩ := a'
    simp only at hs
    subst hs
    have hadd : ∀ o j, (⟨b, o, none⟩ : Addr).add j = ⟨b, o + j, none⟩ := fun o j => by unfold Addr.add; split <;> simp_all
    obtain ⟨x, y, hx, hy, hr⟩ := each j hj
    rw [hadd, hadd] at hx hy
    rw [Nat.add_zero] at hx
    refine ⟨b, o, x, y, rfl, ?_, hx, hy, hr⟩
    unfold World.cell? at hx
    split at hx
    · rename_i he
      exact (Array.getElem?_eq_some_iff.1 he).1
    · cases hx

set_option maxRecDepth 100000 in
theorem lifted (os : Os) (started : os.Started) (H : Type) (enc : TypeId × Value → H) :
    ReturnsInHanded {} Yba.checked os 5 .any (Rows.lawS4690BScriptSpec.pre6 enc Yba.prog Yba.f5 Rows.lawS4690BScriptRow.domain false) (Rows.lawS4690BScriptSpec.post enc Yba.prog Yba.f5 false true false false) := by
  refine returnsInHanded_of_change (C := Yba.checked) own started (by kernel_rfl) Yba.func5
    (ChangeSpec.witness6 (enc := enc) (C := Yba.checked) false ⟨#[], #[.int .u8 0, .int .u8 0, .slice none 0 0], []⟩ 8 (by kernel_rfl) (by kernel_rfl) (by kernel_rfl) (by kernel_rfl)) ?_
  intro W base args ds gs before hval0 hW hcnd _
  have hval : ∀ (j : Nat) t v, Yba.f5.params[j]? = some t → args[j]? = some v → Value.okWide Yba.prog W .any base t v := hval0
  have hW' := hW
  obtain ⟨p, q, hA0, hV, rfl, hfz, hnd⟩ := hW
  have hA : DataW.TrodAll enc Yba.prog W 0 (fun _ => true) true Yba.f5.params.toList args.toList ds p := hA0
  rw [Yba.params5] at hA hval
  obtain ⟨v0, vs0, d0, ds0, p0, q0, hargs, rfl, rfl, h0, r0⟩ := trodAll_cons hA
  obtain ⟨v1, vs1, d1, ds1, p1, q1, rfl, rfl, rfl, h1, r1⟩ := trodAll_cons r0
  obtain ⟨v2, vs2, d2, ds2, p2, q2, rfl, rfl, rfl, h2, r2⟩ := trodAll_cons r1
  obtain ⟨rfl, rfl, rfl⟩ := trodAll_nil r2
  obtain rfl : args = #[v0, v1, v2] := by cases args; simp_all
  obtain ⟨rfl, rfl⟩ := trodVars_none hV
  have k2 := h2
  have lt2 : ∀ x ∈ p2, x.block < W.heap.size := by obtain ⟨m, hm⟩ := k2; exact DataW.trod_lt m _ _ _ hm
  obtain ⟨a, rfl, rfl, rfl, w0⟩ := open_int Yba.underlying5 (hval 0 5 v0 rfl rfl) h0
  obtain ⟨m, rfl, rfl, rfl, w1⟩ := open_int Yba.underlying5 (hval 1 5 v1 rfl rfl) h1
  obtain ⟨q, l, k, rfl, hc⟩ := open_ops (hval 2 90 v2 rfl rfl) h2
  clear hA0 hval0
  have walk : Calls Yba.prog 5 #[.int .u8 a, .int .u8 m, .slice q l k] W fun e w' => e = .returned (.bool true) ∧ Below W.heap.size W w' := by
    by_cases hbig : 1024 < l
    · exact script_big a m q l k W hbig
    · exact script_walk a m q l k W (by omega) (u8_range w0) (u8_range w1) hc
  refine walk.mono fun e W' ⟨he, bel⟩ => ?_
  subst he
  exact ⟨_, rfl, _, _, _, [], _, [], hW', trodAll_mk1 (shut_bool Yba.underlying4 _), (trodAll_cons_mk (shut_int Yba.underlying5 w0) (trodAll_cons_mk (shut_int Yba.underlying5 w1) (trodAll_cons_mk (Below.trod laidOut (by kernel_rfl) (of_decide_eq_true (by kernel_rfl)) k2 bel lt2) trodAll_mk0))), rfl, bel.frame _, fun h => by cases h⟩

theorem over : Rows.lawS4690BScriptRow.holds Yba.pinned (OpenSpec.ofChange Rows.lawS4690BScriptSpec) :=
  OpenClaim.holds_of_wide 5 Yba.f5 rfl rfl rfl rfl rfl rfl rfl ⟨rfl, rfl, rfl, rfl, rfl⟩ rfl rfl rfl rfl rfl (by kernel_rfl) Yba.func5 (by kernel_rfl)
    (of_decide_eq_true (by kernel_rfl)) (by unfold Func.isWrapper; first | (rw [if_pos (by decide +kernel)]; kernel_rfl) | (rw [if_neg (by decide +kernel)]; exact ⟨rfl, rfl⟩))
    (fun os started H enc _ => lifted os started H enc)

/-- THE STATEMENT -/
theorem proved : Rows.LawS4690BScriptSaid := over
end Go.Proofs.Ybulkcsck.Script
