/-
  OWN TEXT. LawS4690CGather: the row.
-/
import Derived.Test.YbulkcsckGbU
import Derived.ProofKit
import Derived.OpenShut
import Derived.ChangeSlices
namespace Go.Proofs.Ybulkcsck.Gather
open Go.ChangeShapes Go.WideShapes Go.ChangeAt Go.RowKit Go.Proofs.Ybulkcsck.Ga

theorem own : ownKnob Yba.prog.godebug = none := by kernel_rfl
theorem laidOut : laidOutB Yba.prog = true := by kernel_rfl
theorem cells109 : Yba.prog.cellsOf 109 = 5 := by kernel_rfl
theorem cells5' : Yba.prog.cellsOf 5 = 1 := by kernel_rfl
theorem cells4' : Yba.prog.cellsOf 4 = 1 := by kernel_rfl
theorem cells37' : Yba.prog.cellsOf 37 = 1 := by kernel_rfl

theorem u8_range {n : Int} (h : (Lit.int .u8 n).wf = true) : 0 ≤ n ∧ n ≤ 255 := by
  simp [Lit.wf, IntKind.min, IntKind.max, IntKind.signed, IntKind.bits] at h
  omega
theorem spot_none {a : Addr} {w : World} {v : Value} (h : w.cell? a = some v) : a.spot = none := by
  unfold World.cell? at h
  split at h
  · split at h
    · cases h
    · rename_i hn
      simpa using hn
  · cases h
theorem add_zero' (a : Addr) : a.add 0 = a := by simp [Addr.add]
theorem add_at' (b o j : Nat) : (⟨b, o, none⟩ : Addr).add j = ⟨b, o + j, none⟩ := by unfold Addr.add; split <;> simp_all
theorem ex_list {α : Type} {P : Nat → α → Prop} : ∀ (l : Nat), (∀ i, i < l → ∃ d, P i d) → ∃ xs : List α, xs.length = l ∧ ∀ (k : Nat) (d : α), xs[k]? = some d → P k d
  | 0, _ => ⟨[], rfl, fun k d h => by simp at h⟩
  | l + 1, h => by
    obtain ⟨xs, hl, hx⟩ := ex_list l (fun i hi => h i (by omega))
    obtain ⟨d, hd⟩ := h l (by omega)
    refine ⟨xs ++ [d], by simp [hl], fun k d' hk => ?_⟩
    by_cases hk' : k < xs.length
    · rw [List.getElem?_append_left hk'] at hk
      exact hx k d' hk
    · have := (List.getElem?_eq_some_iff.1 hk).1
      simp at this
      have e : k = xs.length := by omega
      subst e
      simp at hk
      subst hk
      rw [hl]
      exact hd

theorem five_cells {w : World} {base : Nat} {a : Addr} {cs : List Value} (h : w.cells? base a 5 = some cs) : ∃ x0 x1 x2 x3 x4, cs = [x0, x1, x2, x3, x4] ∧ w.cell? (a.add 0) = some x0 ∧ w.cell? (a.add 1) = some x1 ∧ w.cell? (a.add 2) = some x2 ∧ w.cell? (a.add 3) = some x3 ∧ w.cell? (a.add 4) = some x4 := by
  unfold World.cells? at h
  split at h
  · simp only [List.range_succ, List.range_zero, List.nil_append, List.mapM_cons, List.mapM_nil, List.cons_append] at h
    cases h0 : w.cell? (a.add 0) with
    | none => simp [h0] at h
    | some x0 =>
      cases h1 : w.cell? (a.add 1) with
      | none => simp [h0, h1] at h
      | some x1 =>
        cases h2 : w.cell? (a.add 2) with
        | none => simp [h0, h1, h2] at h
        | some x2 =>
          cases h3 : w.cell? (a.add 3) with
          | none => simp [h0, h1, h2, h3] at h
          | some x3 =>
            cases h4 : w.cell? (a.add 4) with
            | none => simp [h0, h1, h2, h3, h4] at h
            | some x4 =>
              simp [h0, h1, h2, h3, h4] at h
              exact ⟨x0, x1, x2, x3, x4, h.symm, rfl, rfl, rfl, rfl, rfl⟩
  · cases h

/-- a slice of bytes, opened -/
theorem open_byt {H : Type} {enc : TypeId × Value → H} {W : World} {base : Nat} {spare : Nat → Bool} {held : Bool} {fuel : Nat} {v : Value} {x : DataW H × List MemPlace} (h : DataW.trod enc Yba.prog W base spare held fuel 37 [v] = some x) : ∃ p m c, v = .slice p m c ∧ Byt W p m := by
  rcases DataW.trod_slice Yba.underlying37 h with ⟨h0, _⟩ | ⟨a', l', k', elems, rest, n, _, hcs, hx, _, _, _, hlen, hel, _⟩
  · simp only [List.cons.injEq, and_true] at h0
    exact ⟨none, 0, 0, h0, .inl rfl⟩
  · simp only [List.cons.injEq, and_true] at hcs
    refine ⟨_, _, _, hcs, ?_⟩
    by_cases hl : l' = 0
    · exact .inl hl
    · have each : ∀ i, i < l' → ∃ y : Int, W.cell? (a'.add i) = some (.int .u8 y) := by
        intro i hi
        have hE := hel i hi
        rw [cells5', Nat.mul_one, List.getElem?_eq_getElem (by omega), Option.bind_eq_some_iff] at hE
        obtain ⟨cs', hcs', hy⟩ := hE
        obtain ⟨y, h, _⟩ := DataW.trod_int Yba.underlying5 hy
        subst h
        exact ⟨y, cell_of_cells?_one hcs'⟩
      obtain ⟨x0, h0⟩ := each 0 (by omega)
      rw [add_zero'] at h0
      have hs := spot_none h0
      obtain ⟨b, o, sp⟩ := a'
      simp only at hs
      subst hs
      obtain ⟨l, hll, hlx⟩ := ex_list (P := fun j (y : Int) => W.cell? ⟨b, o + j, none⟩ = some (.int .u8 y)) l' (fun i hi => by
        obtain ⟨y, hy⟩ := each i hi
        rw [add_at'] at hy
        exact ⟨y, hy⟩)
      refine .inr ⟨b, o, l, rfl, hll, fun j u hj => ?_⟩
      simp only [u8s, List.getElem?_map, Option.map_eq_some_iff] at hj
      obtain ⟨y, hy, rfl⟩ := hj
      exact hlx j y hy

set_option maxRecDepth 100000 in
theorem open_steps {H : Type} {enc : TypeId × Value → H} {W : World} {base b0 : Nat} {r : Reach} {spare : Nat → Bool} {held : Bool} {v : Value} {d : DataW H} {p : List MemPlace} (hv : Value.okWide Yba.prog W r b0 95 v) (h : DataW.Trod enc Yba.prog W base spare held 95 v d p) :
    ∃ q xs c, v = .slice q xs.length c ∧ Inp W q xs := by
  obtain ⟨a, l, k, rfl⟩ := okWide_slice Yba.underlying95 hv
  obtain ⟨fuel, hf⟩ := h
  rcases DataW.trod_slice Yba.underlying95 hf with ⟨h0, _⟩ | ⟨a', l', k', elems, rest, n, _, hcs, hx, _, _, _, hlen, hel, _⟩
  · simp only [Value.cells, List.cons.injEq, and_true] at h0
    rw [h0]
    exact ⟨none, [], 0, rfl, .inl rfl, fun d hd => by simp at hd, fun d hd => by simp at hd⟩
  · simp only [Value.cells, List.cons.injEq, and_true] at hcs
    rw [hcs]
    have each : ∀ i, i < l' → ∃ d : SD, (∀ (j : Nat) (u : Value), d.L[j]? = some u → W.cell? ((a'.add (i * 5)).add j) = some u) ∧ (d.fr ≤ 255 ∧ d.sg ≤ 255 ∧ d.ms ≤ 255) ∧ Byt W d.p d.m := by
      intro i hi
      have hE := hel i hi
      rw [cells109, List.getElem?_eq_getElem (by omega), Option.bind_eq_some_iff] at hE
      obtain ⟨cs', hcs', hy⟩ := hE
      obtain ⟨c0, c1, c2, c3, c4, rfl, e0, e1, e2, e3, e4⟩ := five_cells hcs'
      obtain ⟨xs, m, _, _, _, hxl, hfs⟩ := DataW.trod_struct Yba.underlying109 hy
      have hxl' : xs.length = 5 := hxl
      have f0 := hfs 0 { name := "From", type := 5, offset := 0, embedded := false, tag := "", pkgPath := "", byteOffset := 0 } rfl
      have f1 := hfs 1 { name := "Stage", type := 5, offset := 1, embedded := false, tag := "", pkgPath := "", byteOffset := 1 } rfl
      have f2 := hfs 2 { name := "Mis", type := 5, offset := 2, embedded := false, tag := "", pkgPath := "", byteOffset := 2 } rfl
      have f3 := hfs 3 { name := "Ok", type := 4, offset := 3, embedded := false, tag := "", pkgPath := "", byteOffset := 3 } rfl
      have f4 := hfs 4 { name := "Sig", type := 37, offset := 4, embedded := false, tag := "", pkgPath := "", byteOffset := 8 } rfl
      simp only [cells5', cells4', cells37', List.drop_zero, List.drop_succ_cons, List.take_succ_cons, List.take_zero] at f0 f1 f2 f3 f4
      rw [List.getElem?_eq_getElem (by omega)] at f0 f1 f2 f3 f4
      obtain ⟨x0, g0, _, w0⟩ := DataW.trod_int Yba.underlying5 f0
      obtain ⟨x1, g1, _, w1⟩ := DataW.trod_int Yba.underlying5 f1
      obtain ⟨x2, g2, _, w2⟩ := DataW.trod_int Yba.underlying5 f2
      obtain ⟨x3, g3, _⟩ := DataW.trod_bool Yba.underlying4 f3
      obtain ⟨p4, m4, k4, g4, y4⟩ := open_byt f4
      simp only [List.cons.injEq, and_true] at g0 g1 g2 g3
      subst g0 g1 g2 g3 g4
      have r0 := u8_range w0
      have r1 := u8_range w1
      have r2 := u8_range w2
      obtain ⟨n0, rfl⟩ := Int.eq_ofNat_of_zero_le r0.1
      obtain ⟨n1, rfl⟩ := Int.eq_ofNat_of_zero_le r1.1
      obtain ⟨n2, rfl⟩ := Int.eq_ofNat_of_zero_le r2.1
      refine ⟨⟨n0, n1, n2, x3, p4, m4, k4⟩, fun j u hj => ?_, ⟨by show n0 ≤ 255; omega, by show n1 ≤ 255; omega, by show n2 ≤ 255; omega⟩, y4⟩
      rcases j with _ | _ | _ | _ | _ | j
      · simp [SD.L] at hj; subst hj; exact e0
      · simp [SD.L] at hj; subst hj; exact e1
      · simp [SD.L] at hj; subst hj; exact e2
      · simp [SD.L] at hj; subst hj; exact e3
      · simp [SD.L] at hj; subst hj; exact e4
      · simp [SD.L] at hj
    by_cases hl : l' = 0
    · subst hl
      exact ⟨some a', [], k', rfl, .inl rfl, fun d hd => by simp at hd, fun d hd => by simp at hd⟩
    · obtain ⟨d0, h0, _⟩ := each 0 (by omega)
      have z0 := h0 0 _ rfl
      rw [show a'.add (0 * 5) = a' by simp [Addr.add], add_zero'] at z0
      have hs := spot_none z0
      obtain ⟨b, o, sp⟩ := a'
      simp only at hs
      subst hs
      obtain ⟨xs, hll, hlx⟩ := ex_list (P := fun i (d : SD) => W.rangeAt b (o + i * 5) d.L ∧ (d.fr ≤ 255 ∧ d.sg ≤ 255 ∧ d.ms ≤ 255) ∧ Byt W d.p d.m) l' (fun i hi => by
        obtain ⟨d, q1, q2⟩ := each i hi
        refine ⟨d, fun j u hj => ?_, q2⟩
        have := q1 j u hj
        rw [add_at', add_at'] at this
        exact this)
      refine ⟨_, xs, k', by rw [hll], .inr ⟨b, o, rfl, fun k d hk => (hlx k d hk).1⟩, fun d hd => ?_, fun d hd => ?_⟩
      · obtain ⟨k, hk⟩ := List.getElem?_of_mem hd
        exact (hlx k d hk).2.1
      · obtain ⟨k, hk⟩ := List.getElem?_of_mem hd
        exact (hlx k d hk).2.2

set_option maxRecDepth 100000 in
set_option maxHeartbeats 1600000 in
theorem lifted (os : Os) (started : os.Started) (H : Type) (enc : TypeId × Value → H) :
    ReturnsInHanded {} Yba.checked os 6 .any (Rows.lawS4690CGatherSpec.pre6 enc Yba.prog Yba.f6 Rows.lawS4690CGatherRow.domain false) (Rows.lawS4690CGatherSpec.post enc Yba.prog Yba.f6 false true false false) := by
  refine returnsInHanded_of_change (C := Yba.checked) own started (by kernel_rfl) Yba.func6
    (ChangeSpec.witness6 (enc := enc) (C := Yba.checked) false ⟨#[], #[.int .u8 0, .int .u8 0, .int .u8 0, .int .u8 0, .int .u8 0, .int .i64 0, .int .i64 0, .slice none 0 0], []⟩ 8 (by kernel_rfl) (by kernel_rfl) (by kernel_rfl) (by kernel_rfl)) ?_
  intro W base args ds gs before hval0 hW hcnd _
  have hval : ∀ (j : Nat) t v, Yba.f6.params[j]? = some t → args[j]? = some v → Value.okWide Yba.prog W .any base t v := hval0
  have hW' := hW
  obtain ⟨p, q, hA0, hV, rfl, hfz, hnd⟩ := hW
  have hA : DataW.TrodAll enc Yba.prog W 0 (fun _ => true) true Yba.f6.params.toList args.toList ds p := hA0
  rw [Yba.params6] at hA hval
  obtain ⟨v0, vs0, d0, ds0, p0, q0, hargs, rfl, rfl, h0, r0⟩ := trodAll_cons hA
  obtain ⟨v1, vs1, d1, ds1, p1, q1, rfl, rfl, rfl, h1, r1⟩ := trodAll_cons r0
  obtain ⟨v2, vs2, d2, ds2, p2, q2, rfl, rfl, rfl, h2, r2⟩ := trodAll_cons r1
  obtain ⟨v3, vs3, d3, ds3, p3, q3, rfl, rfl, rfl, h3, r3⟩ := trodAll_cons r2
  obtain ⟨v4, vs4, d4, ds4, p4, q4, rfl, rfl, rfl, h4, r4⟩ := trodAll_cons r3
  obtain ⟨v5, vs5, d5, ds5, p5, q5, rfl, rfl, rfl, h5, r5⟩ := trodAll_cons r4
  obtain ⟨v6, vs6, d6, ds6, p6, q6, rfl, rfl, rfl, h6, r6⟩ := trodAll_cons r5
  obtain ⟨v7, vs7, d7, ds7, p7, q7, rfl, rfl, rfl, h7, r7⟩ := trodAll_cons r6
  obtain ⟨rfl, rfl, rfl⟩ := trodAll_nil r7
  obtain rfl : args = #[v0, v1, v2, v3, v4, v5, v6, v7] := by cases args; simp_all
  obtain ⟨rfl, rfl⟩ := trodVars_none hV
  have k7 := h7
  have lt7 : ∀ x ∈ p7, x.block < W.heap.size := by obtain ⟨m, hm⟩ := k7; exact DataW.trod_lt m _ _ _ hm
  obtain ⟨a0, rfl, rfl, rfl, w0⟩ := open_int Yba.underlying5 (hval 0 5 v0 rfl rfl) h0
  obtain ⟨a1, rfl, rfl, rfl, w1⟩ := open_int Yba.underlying5 (hval 1 5 v1 rfl rfl) h1
  obtain ⟨a2, rfl, rfl, rfl, w2⟩ := open_int Yba.underlying5 (hval 2 5 v2 rfl rfl) h2
  obtain ⟨a3, rfl, rfl, rfl, w3⟩ := open_int Yba.underlying5 (hval 3 5 v3 rfl rfl) h3
  obtain ⟨a4, rfl, rfl, rfl, w4⟩ := open_int Yba.underlying5 (hval 4 5 v4 rfl rfl) h4
  obtain ⟨a5, rfl, rfl, rfl, w5⟩ := open_int Yba.underlying3 (hval 5 3 v5 rfl rfl) h5
  obtain ⟨a6, rfl, rfl, rfl, w6⟩ := open_int Yba.underlying3 (hval 6 3 v6 rfl rfl) h6
  obtain ⟨q, xs, c, rfl, hI⟩ := open_steps (hval 7 95 v7 rfl rfl) h7
  clear hA0 hval0
  have walk : Calls Yba.prog 6 #[.int .u8 a0, .int .u8 a1, .int .u8 a2, .int .u8 a3, .int .u8 a4, .int .i64 a5, .int .i64 a6, .slice q xs.length c] W fun e w' => e = .returned (.bool true) ∧ Below W.heap.size W w' := by
    have s0 := u8_range w0
    have s1 := u8_range w1
    have s2 := u8_range w2
    have s3 := u8_range w3
    have s4 := u8_range w4
    obtain ⟨n0, e0⟩ := Int.eq_ofNat_of_zero_le s0.1
    obtain ⟨n1, e1⟩ := Int.eq_ofNat_of_zero_le s1.1
    obtain ⟨n2, e2⟩ := Int.eq_ofNat_of_zero_le s2.1
    obtain ⟨n3, e3⟩ := Int.eq_ofNat_of_zero_le s3.1
    obtain ⟨n4, e4⟩ := Int.eq_ofNat_of_zero_le s4.1
    rw [e0, e1, e2, e3, e4]
    exact gather W n0 n1 n2 n3 n4 (by omega) (by omega) (by omega) a5 a6 q xs.length c xs hI rfl
  refine walk.mono fun e W' ⟨he, bel⟩ => ?_
  subst he
  exact ⟨_, rfl, _, _, _, [], _, [], hW', trodAll_mk1 (shut_bool Yba.underlying4 _), (trodAll_cons_mk (shut_int Yba.underlying5 w0) (trodAll_cons_mk (shut_int Yba.underlying5 w1) (trodAll_cons_mk (shut_int Yba.underlying5 w2) (trodAll_cons_mk (shut_int Yba.underlying5 w3) (trodAll_cons_mk (shut_int Yba.underlying5 w4) (trodAll_cons_mk (shut_int Yba.underlying3 w5) (trodAll_cons_mk (shut_int Yba.underlying3 w6) (trodAll_cons_mk (Below.trod laidOut (by kernel_rfl) (of_decide_eq_true (by kernel_rfl)) k7 bel lt7) trodAll_mk0)))))))), rfl, bel.frame _, fun h => by cases h⟩

theorem over : Rows.lawS4690CGatherRow.holds Yba.pinned (OpenSpec.ofChange Rows.lawS4690CGatherSpec) :=
  OpenClaim.holds_of_wide 6 Yba.f6 rfl rfl rfl rfl rfl rfl rfl ⟨rfl, rfl, rfl, rfl, rfl⟩ rfl rfl rfl rfl rfl (by kernel_rfl) Yba.func6 (by kernel_rfl)
    (of_decide_eq_true (by kernel_rfl)) (by unfold Func.isWrapper; first | (rw [if_pos (by decide +kernel)]; kernel_rfl) | (rw [if_neg (by decide +kernel)]; exact ⟨rfl, rfl⟩))
    (fun os started H enc _ => lifted os started H enc)

/-- THE STATEMENT -/
theorem proved : Rows.LawS4690CGatherSaid := over
end Go.Proofs.Ybulkcsck.Gather
