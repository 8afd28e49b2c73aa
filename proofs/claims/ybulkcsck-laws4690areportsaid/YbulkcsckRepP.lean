/-
  OWN TEXT. LawS4690AReport: the row.
-/
import Derived.Test.YbulkcsckRepO
import Derived.ProofKit
import Derived.OpenShut
namespace Go.Proofs.Ybulkcsck.Report
open Go.ChangeShapes Go.WideShapes Go.ChangeAt Go.RowKit

theorem own : ownKnob Yba.prog.godebug = none := by kernel_rfl
theorem laidOut : laidOutB Yba.prog = true := by kernel_rfl
theorem cells24 : Yba.prog.cellsOf 24 = 18 := by kernel_rfl
theorem cells3 : Yba.prog.cellsOf 3 = 1 := by kernel_rfl
theorem cells4 : Yba.prog.cellsOf 4 = 1 := by kernel_rfl
theorem cells5 : Yba.prog.cellsOf 5 = 1 := by kernel_rfl
theorem cells22 : Yba.prog.cellsOf 22 = 3 := by kernel_rfl

theorem list18 {α : Type} {l : List α} (h : l.length = 18) : ∃ c0 c1 c2 c3 c4 c5 c6 c7 c8 c9 c10 c11 c12 c13 c14 c15 c16 c17, l = [c0, c1, c2, c3, c4, c5, c6, c7, c8, c9, c10, c11, c12, c13, c14, c15, c16, c17] := by
  match l, h with
  | [c0, c1, c2, c3, c4, c5, c6, c7, c8, c9, c10, c11, c12, c13, c14, c15, c16, c17], _ => exact ⟨c0, c1, c2, c3, c4, c5, c6, c7, c8, c9, c10, c11, c12, c13, c14, c15, c16, c17, rfl⟩

theorem list3 {α : Type} {l : List α} (h : l.length = 3) : ∃ a b c, l = [a, b, c] := by
  match l, h with
  | [a, b, c], _ => exact ⟨a, b, c, rfl⟩

section
variable {H : Type} {enc : TypeId × Value → H} {w : World} {base : Nat} {spare : Nat → Bool} {held : Bool} {n : Nat} {cs : List Value} {xs : List (DataW H × List MemPlace)} {i : Nat}
theorem asInt (hx : i < xs.length) (h : DataW.trod enc Yba.prog w base spare held n 3 cs = xs[i]?) : ∃ a, cs = [.int .i64 a] := by
  rw [List.getElem?_eq_getElem hx] at h
  obtain ⟨a, e, _⟩ := DataW.trod_int Yba.underlying3 h
  exact ⟨a, e⟩
theorem asU8 (hx : i < xs.length) (h : DataW.trod enc Yba.prog w base spare held n 5 cs = xs[i]?) : ∃ a, cs = [.int .u8 a] := by
  rw [List.getElem?_eq_getElem hx] at h
  obtain ⟨a, e, _⟩ := DataW.trod_int Yba.underlying5 h
  exact ⟨a, e⟩
theorem asB (hx : i < xs.length) (h : DataW.trod enc Yba.prog w base spare held n 4 cs = xs[i]?) : ∃ a, cs = [.bool a] := by
  rw [List.getElem?_eq_getElem hx] at h
  obtain ⟨a, e, _⟩ := DataW.trod_bool Yba.underlying4 h
  exact ⟨a, e⟩
set_option maxRecDepth 100000 in
theorem asV (hx : i < xs.length) (h : DataW.trod enc Yba.prog w base spare held n 22 cs = xs[i]?) : ∃ a b c, cs = [.bool a, .bool b, .bool c] := by
  rw [List.getElem?_eq_getElem hx] at h
  obtain ⟨ys, m, rfl, _, hl, hlen, hf⟩ := DataW.trod_array Yba.underlying22 h
  rw [cells22] at hl
  obtain ⟨a, ea⟩ := asB (i := 0) (by omega) (hf 0 (by decide))
  obtain ⟨b, eb⟩ := asB (i := 1) (by omega) (hf 1 (by decide))
  obtain ⟨c, ec⟩ := asB (i := 2) (by omega) (hf 2 (by decide))
  rw [cells4] at ea eb ec
  obtain ⟨c0, c1, c2, rfl⟩ := list3 hl
  simp only [Nat.mul_one, List.drop_succ_cons, List.drop_zero, List.take_succ_cons, List.take_zero, List.cons.injEq, and_true] at ea eb ec
  exact ⟨a, b, c, by rw [ea, eb, ec]⟩
end

set_option maxRecDepth 100000 in
theorem open_dt {H : Type} {enc : TypeId × Value → H} {W : World} {base b0 : Nat} {r : Reach} {spare : Nat → Bool} {held : Bool} {v : Value} {d : DataW H} {p : List MemPlace} (hv : Value.okWide Yba.prog W r b0 24 v) (h : DataW.Trod enc Yba.prog W base spare held 24 v d p) :
    ∃ D : Dt, v = .agg D.L.toArray := by
  obtain ⟨cs, rfl, hsz⟩ := okWide_struct Yba.underlying24 hv
  obtain ⟨fuel, hf⟩ := h
  obtain ⟨xs, n, _, _, hl, hlen, hf⟩ := DataW.trod_struct Yba.underlying24 hf
  simp only [Value.cells] at hl hf
  rw [cells24] at hl
  obtain ⟨c0, c1, c2, c3, c4, c5, c6, c7, c8, c9, c10, c11, c12, c13, c14, c15, c16, c17, hc⟩ := list18 hl
  rw [hc] at hf
  have hx : xs.length = 16 := hlen
  have f0 := hf 0 { name := "Epoch", type := 3, offset := 0, embedded := false, tag := "", pkgPath := "", byteOffset := 0 } rfl
  simp only [cells3, List.drop_zero, List.take_succ_cons, List.take_zero] at f0
  obtain ⟨ep, e0⟩ := asInt (i := 0) (by omega) f0
  have f1 := hf 1 { name := "ECEpoch", type := 3, offset := 1, embedded := false, tag := "", pkgPath := "", byteOffset := 8 } rfl
  simp only [cells3, List.drop_succ_cons, List.drop_zero, List.take_succ_cons, List.take_zero] at f1
  obtain ⟨ece, e1⟩ := asInt (i := 1) (by omega) f1
  have f2 := hf 2 { name := "View", type := 3, offset := 2, embedded := false, tag := "", pkgPath := "", byteOffset := 16 } rfl
  simp only [cells3, List.drop_succ_cons, List.drop_zero, List.take_succ_cons, List.take_zero] at f2
  obtain ⟨vw, e2⟩ := asInt (i := 2) (by omega) f2
  have f3 := hf 3 { name := "Wished", type := 3, offset := 3, embedded := false, tag := "", pkgPath := "", byteOffset := 24 } rfl
  simp only [cells3, List.drop_succ_cons, List.drop_zero, List.take_succ_cons, List.take_zero] at f3
  obtain ⟨ws, e3⟩ := asInt (i := 3) (by omega) f3
  have f4 := hf 4 { name := "Leaving", type := 4, offset := 4, embedded := false, tag := "", pkgPath := "", byteOffset := 32 } rfl
  simp only [cells4, List.drop_succ_cons, List.drop_zero, List.take_succ_cons, List.take_zero] at f4
  obtain ⟨lv, e4⟩ := asB (i := 4) (by omega) f4
  have f5 := hf 5 { name := "Voted", type := 22, offset := 5, embedded := false, tag := "", pkgPath := "", byteOffset := 33 } rfl
  simp only [cells22, List.drop_succ_cons, List.drop_zero, List.take_succ_cons, List.take_zero] at f5
  obtain ⟨v0, v1, v2, e5⟩ := asV (i := 5) (by omega) f5
  have f6 := hf 6 { name := "LockStage", type := 3, offset := 8, embedded := false, tag := "", pkgPath := "", byteOffset := 40 } rfl
  simp only [cells3, List.drop_succ_cons, List.drop_zero, List.take_succ_cons, List.take_zero] at f6
  obtain ⟨ls, e6⟩ := asInt (i := 6) (by omega) f6
  have f7 := hf 7 { name := "LockEpoch", type := 3, offset := 9, embedded := false, tag := "", pkgPath := "", byteOffset := 48 } rfl
  simp only [cells3, List.drop_succ_cons, List.drop_zero, List.take_succ_cons, List.take_zero] at f7
  obtain ⟨le, e7⟩ := asInt (i := 7) (by omega) f7
  have f8 := hf 8 { name := "LockView", type := 3, offset := 10, embedded := false, tag := "", pkgPath := "", byteOffset := 56 } rfl
  simp only [cells3, List.drop_succ_cons, List.drop_zero, List.take_succ_cons, List.take_zero] at f8
  obtain ⟨lw, e8⟩ := asInt (i := 8) (by omega) f8
  have f9 := hf 9 { name := "LockBlock", type := 5, offset := 11, embedded := false, tag := "", pkgPath := "", byteOffset := 64 } rfl
  simp only [cells5, List.drop_succ_cons, List.drop_zero, List.take_succ_cons, List.take_zero] at f9
  obtain ⟨lb, e9⟩ := asU8 (i := 9) (by omega) f9
  have f10 := hf 10 { name := "Locked", type := 4, offset := 12, embedded := false, tag := "", pkgPath := "", byteOffset := 65 } rfl
  simp only [cells4, List.drop_succ_cons, List.drop_zero, List.take_succ_cons, List.take_zero] at f10
  obtain ⟨ld, e10⟩ := asB (i := 10) (by omega) f10
  have f11 := hf 11 { name := "HStage", type := 3, offset := 13, embedded := false, tag := "", pkgPath := "", byteOffset := 72 } rfl
  simp only [cells3, List.drop_succ_cons, List.drop_zero, List.take_succ_cons, List.take_zero] at f11
  obtain ⟨hs, e11⟩ := asInt (i := 11) (by omega) f11
  have f12 := hf 12 { name := "HEpoch", type := 3, offset := 14, embedded := false, tag := "", pkgPath := "", byteOffset := 80 } rfl
  simp only [cells3, List.drop_succ_cons, List.drop_zero, List.take_succ_cons, List.take_zero] at f12
  obtain ⟨he, e12⟩ := asInt (i := 12) (by omega) f12
  have f13 := hf 13 { name := "HView", type := 3, offset := 15, embedded := false, tag := "", pkgPath := "", byteOffset := 88 } rfl
  simp only [cells3, List.drop_succ_cons, List.drop_zero, List.take_succ_cons, List.take_zero] at f13
  obtain ⟨hw, e13⟩ := asInt (i := 13) (by omega) f13
  have f14 := hf 14 { name := "HBlock", type := 5, offset := 16, embedded := false, tag := "", pkgPath := "", byteOffset := 96 } rfl
  simp only [cells5, List.drop_succ_cons, List.drop_zero, List.take_succ_cons, List.take_zero] at f14
  obtain ⟨hb, e14⟩ := asU8 (i := 14) (by omega) f14
  have f15 := hf 15 { name := "Tip", type := 5, offset := 17, embedded := false, tag := "", pkgPath := "", byteOffset := 97 } rfl
  simp only [cells5, List.drop_succ_cons, List.drop_zero, List.take_succ_cons, List.take_zero] at f15
  obtain ⟨tp, e15⟩ := asU8 (i := 15) (by omega) f15
  simp only [List.cons.injEq, and_true] at e0 e1 e2 e3 e4 e5 e6 e7 e8 e9 e10 e11 e12 e13 e14 e15
  obtain ⟨e5, e5', e5''⟩ := e5
  refine ⟨⟨ep, ece, vw, ws, lv, v0, v1, v2, ls, le, lw, lb, ld, hs, he, hw, hb, tp⟩, ?_⟩
  have : cs = cs.toList.toArray := by simp
  rw [this, hc, e0, e1, e2, e3, e4, e5, e5', e5'', e6, e7, e8, e9, e10, e11, e12, e13, e14, e15]
  rfl

set_option maxRecDepth 100000 in
theorem lifted (os : Os) (started : os.Started) (H : Type) (enc : TypeId × Value → H) :
    ReturnsInHanded {} Yba.checked os 3 .any (Rows.lawS4690AReportSpec.pre6 enc Yba.prog Yba.f3 Rows.lawS4690AReportRow.domain false) (Rows.lawS4690AReportSpec.post enc Yba.prog Yba.f3 false true false false) := by
  refine returnsInHanded_of_change (C := Yba.checked) own started (by kernel_rfl) Yba.func3
    (ChangeSpec.witness6 (enc := enc) (C := Yba.checked) false ⟨#[], #[.agg (Dt.L ⟨0, 0, 0, 0, false, false, false, false, 0, 0, 0, 0, false, 0, 0, 0, 0, 0⟩).toArray, .int .u32 0], []⟩ 8 (by kernel_rfl) (by kernel_rfl) (by kernel_rfl) (by kernel_rfl)) ?_
  intro W base args ds gs before hval0 hW hcnd _
  have hval : ∀ (j : Nat) t v, Yba.f3.params[j]? = some t → args[j]? = some v → Value.okWide Yba.prog W .any base t v := hval0
  have hW' := hW
  obtain ⟨p, q, hA0, hV, rfl, hfz, hnd⟩ := hW
  have hA : DataW.TrodAll enc Yba.prog W 0 (fun _ => true) true Yba.f3.params.toList args.toList ds p := hA0
  rw [Yba.params3] at hA hval
  obtain ⟨v0, vs0, d0, ds0, p0, q0, hargs, rfl, rfl, h0, r0⟩ := trodAll_cons hA
  obtain ⟨v1, vs1, d1, ds1, p1, q1, rfl, rfl, rfl, h1, r1⟩ := trodAll_cons r0
  obtain ⟨rfl, rfl, rfl⟩ := trodAll_nil r1
  obtain rfl : args = #[v0, v1] := by cases args; simp_all
  obtain ⟨rfl, rfl⟩ := trodVars_none hV
  have k0 := h0
  have lt0 : ∀ x ∈ p0, x.block < W.heap.size := by obtain ⟨m, hm⟩ := k0; exact DataW.trod_lt m _ _ _ hm
  obtain ⟨D, rfl⟩ := open_dt (hval 0 24 v0 rfl rfl) h0
  obtain ⟨m, rfl, rfl, rfl, w1⟩ := open_int Yba.underlying25 (hval 1 25 v1 rfl rfl) h1
  clear hA0 hval0
  have hm : 0 ≤ m ∧ m < 4294967296 := by
    have := w1
    simp [Lit.wf, IntKind.min, IntKind.max, IntKind.signed, IntKind.bits] at this
    omega
  refine (law_report D m W hm.1 hm.2).mono fun e W' ⟨he, bel⟩ => ?_
  subst he
  exact ⟨_, rfl, _, _, _, [], _, [], hW', trodAll_mk1 (shut_bool Yba.underlying4 _), (trodAll_cons_mk (Below.trod laidOut (by kernel_rfl) (of_decide_eq_true (by kernel_rfl)) k0 bel lt0) (trodAll_cons_mk (shut_int Yba.underlying25 w1) trodAll_mk0)), rfl, bel.frame _, fun h => by cases h⟩

theorem over : Rows.lawS4690AReportRow.holds Yba.pinned (OpenSpec.ofChange Rows.lawS4690AReportSpec) :=
  OpenClaim.holds_of_wide 3 Yba.f3 rfl rfl rfl rfl rfl rfl rfl ⟨rfl, rfl, rfl, rfl, rfl⟩ rfl rfl rfl rfl rfl (by kernel_rfl) Yba.func3 (by kernel_rfl)
    (of_decide_eq_true (by kernel_rfl)) (by unfold Func.isWrapper; first | (rw [if_pos (by decide +kernel)]; kernel_rfl) | (rw [if_neg (by decide +kernel)]; exact ⟨rfl, rfl⟩))
    (fun os started H enc _ => lifted os started H enc)

/-- THE STATEMENT -/
theorem proved : Rows.LawS4690AReportSaid := over
end Go.Proofs.Ybulkcsck.Report
