/-
  OWN TEXT. LawS4690CGather: a round of the main loop up to the call
-/
import Derived.Test.YbulkcsckGbA
set_option linter.unusedSimpArgs false
set_option linter.unusedVariables false
namespace Go.Proofs.Ybulkcsck.Ga
open Go.RowKit

theorem built112 (s ep vw : Int) (bid : List Int) (hl : bid.length = 32) (p : Option Addr) (m c : Nat) : Yba.prog.built 112 [(0, .int .i64 s), (1, .int .i64 ep), (2, .int .i64 vw), (3, .agg (u8s bid).toArray), (4, .slice p m c)] = some (qcL s ep vw bid (.slice p m c)).toArray := by
  have h3 : (u8s bid).length = 32 := by simp [u8s, hl]
  have hz : ∃ z : List Value, z.length = 36 ∧ ∀ parts, Yba.prog.built 112 parts = Instr.fill (#[(0, 1), (1, 1), (2, 1), (3, 32), (35, 1)][·]?) z.toArray parts := by
    refine ⟨((Yba.t112.zero.getD undef).cells).toList, by kernel_rfl, fun parts => by kernel_rfl⟩
  obtain ⟨z, hzl, hb⟩ := hz
  rw [hb]
  have := fill_seq (#[(0, 1), (1, 1), (2, 1), (3, 32), (35, 1)][·]?) [(0, .int .i64 s), (1, .int .i64 ep), (2, .int .i64 vw), (3, .agg (u8s bid).toArray), (4, .slice p m c)] [] z (by simp [seqOk, Value.cells, h3]) (by simp [flat, Value.cells, h3, hzl])
  simpa [flat, Value.cells, qcL] using this

theorem wrap_small (x : Int) (h0 : 0 ≤ x) (h1 : x ≤ 1000000) : IntKind.i64.wrap x = x := by
  simp [IntKind.wrap, IntKind.signed, IntKind.bits]
  omega
theorem wrap_small8 (x : Int) (h0 : 0 ≤ x) (h1 : x ≤ 255) : IntKind.u8.wrap x = x := by
  simp [IntKind.wrap, IntKind.signed, IntKind.bits]
  omega
set_option maxRecDepth 100000 in
theorem p44 (Q : Exit → Act → World → Prop) (a : Act) (L : Lw) (w : World) (j b o : Nat) (d : SD) (F : Fr a L) (h38 : a.tmps[38]? = some (.int .i64 j)) (hj : j < L.ln) (hps : L.ps = some ⟨b, o, none⟩) (hr : w.rangeAt b (o + j * 5) d.L)
    (k : ∀ a', Fr a' L → Same [34, 35, 36, 37, 38] a a' → a'.tmps[39]? = some (.pointer (some ⟨w.heap.size, 0, none⟩)) → Q .normal a' (w.alloc (.cells d.L.toArray 109))) : (nth 0 b6).wp Yba.prog Q a w := by
  unfold nth b6 nth c6
  simp only [Yba.f6, Option.getD, nB, cA, cB, cIn]
  have hs := F.sz
  obtain ⟨p7, h7⟩ := sl F.s7
  obtain ⟨p38, h38'⟩ := sl h38
  have FF : Hid (Fr a L) := F
  have K : Hid _ := k
  clear k F
  rw [hps] at h7
  have c0 : w.cell? ⟨b, o + j * 5, none⟩ = some (.int .u8 d.fr) := hr 0 _ rfl
  have c1 : w.cell? ⟨b, o + j * 5 + 1, none⟩ = some (.int .u8 d.sg) := hr 1 _ rfl
  have c2 : w.cell? ⟨b, o + j * 5 + 2, none⟩ = some (.int .u8 d.ms) := hr 2 _ rfl
  have c3 : w.cell? ⟨b, o + j * 5 + 3, none⟩ = some (.bool d.ok) := hr 3 _ rfl
  have c4 : w.cell? ⟨b, o + j * 5 + 4, none⟩ = some (.slice d.p d.m d.c) := hr 4 _ rfl
  clear hps hr
  go_wp2
  refine K.out _ ?_ ?_ (by simp [hs])
  · (repeat (refine Fr.set ?_ _ _ (by decide)))
    exact FF.out
  · (repeat (refine Same.set ?_ _ _ (by decide)))
    exact Same.refl _ _

set_option maxRecDepth 100000 in
theorem p45 (Q : Exit → Act → World → Prop) (a : Act) (L : Lw) (w : World) (b : Nat) (d : SD) (F : Fr a L) (hd : d.fr ≤ 255 ∧ d.sg ≤ 255 ∧ d.ms ≤ 255) (hn : 0 < L.cf.n ∧ L.cf.n ≤ 100) (h39 : a.tmps[39]? = some (.pointer (some ⟨b, 0, none⟩))) (hr : w.rangeAt b 0 d.L)
    (k : ∀ a', Fr a' L → Same [34, 35, 36, 37, 38, 39] a a' → a'.tmps[40]? = some (.int .i64 ((d.fr % L.cf.n : Nat) : Int)) → Q .normal a' w) : (nth 1 b6).wp Yba.prog Q a w := by
  unfold nth b6 nth c6
  simp only [Yba.f6, Option.getD, nB, cA, cB, cIn]
  have hs := F.sz
  obtain ⟨p18, h18⟩ := sl F.s18
  obtain ⟨p39, h39'⟩ := sl h39
  have FF : Hid (Fr a L) := F
  have K : Hid _ := k
  clear k F
  have c0 : w.cell? ⟨b, 0, none⟩ = some (.int .u8 d.fr) := hr 0 _ rfl
  obtain ⟨d1, _, _⟩ := hd
  obtain ⟨n1, n2⟩ := hn
  have tm : (d.fr : Int).tmod (L.cf.n : Int) = ((d.fr % L.cf.n : Nat) : Int) := (Int.ofNat_tmod _ _).symm
  have hlt : d.fr % L.cf.n ≤ 100 := by have := Nat.mod_lt d.fr n1; omega
  clear hr
  have n3 : ¬ ((L.cf.n : Int) = 0) := by omega
  generalize d.fr % L.cf.n = x at *
  go_wp2
  refine K.out _ ?_ ?_ (by simp [hs])
  · (repeat (refine Fr.set ?_ _ _ (by decide)))
    exact FF.out
  · (repeat (refine Same.set ?_ _ _ (by decide)))
    exact Same.refl _ _

set_option maxRecDepth 100000 in
theorem p46 (Q : Exit → Act → World → Prop) (a : Act) (L : Lw) (w : World) (b : Nat) (d : SD) (F : Fr a L) (h39 : a.tmps[39]? = some (.pointer (some ⟨b, 0, none⟩))) (hr : w.rangeAt b 0 d.L) (hb : w.rangeAt L.bb 0 (u8s L.bid)) (hbl : L.bid.length = 32)
    (k : ∀ a', Fr a' L → Same [34, 35, 36, 37, 38, 39, 40] a a' → a'.tmps[41]? = some (.pointer (some ⟨w.heap.size, 0, none⟩)) → Q .normal a' (w.alloc (.cells (qcL ((d.sg % 5 : Nat) : Int) L.ep L.cf.vw L.bid (.slice d.p d.m d.c)).toArray 112))) : (nth 2 b6).wp Yba.prog Q a w := by
  unfold nth b6 nth c6
  simp only [Yba.f6, Option.getD, nB, cA, cB, cIn]
  have hs := F.sz
  obtain ⟨p5, h5⟩ := sl F.s5
  obtain ⟨p6, h6⟩ := sl F.s6
  obtain ⟨p23, h23⟩ := sl F.s23
  obtain ⟨p39, h39'⟩ := sl h39
  have FF : Hid (Fr a L) := F
  have K : Hid _ := k
  clear k F
  have HB : Hid (w.rangeAt L.bb 0 (u8s L.bid)) := hb
  have HI : Hid ((Yba.prog.info? 30).map (·.size) = some (u8s L.bid).length) := inf30 hbl
  have BU : Hid (Yba.prog.built 112 [(0, .int .i64 ((d.sg % 5 : Nat) : Int)), (1, .int .i64 L.ep), (2, .int .i64 L.cf.vw), (3, .agg (u8s L.bid).toArray), (4, .slice d.p d.m d.c)] = some (qcL ((d.sg % 5 : Nat) : Int) L.ep L.cf.vw L.bid (.slice d.p d.m d.c)).toArray) := built112 _ _ _ _ hbl _ _ _
  have c1 : w.cell? ⟨b, 1, none⟩ = some (.int .u8 d.sg) := hr 1 _ rfl
  have c4 : w.cell? ⟨b, 4, none⟩ = some (.slice d.p d.m d.c) := hr 4 _ rfl
  have tm : (d.sg : Int).tmod 5 = ((d.sg % 5 : Nat) : Int) := (Int.ofNat_tmod _ _).symm
  have wr : IntKind.i64.wrap ((d.sg % 5 : Nat) : Int) = ((d.sg % 5 : Nat) : Int) := wrap_small _ (by omega) (by omega)
  have wr8 : IntKind.u8.wrap ((d.sg % 5 : Nat) : Int) = ((d.sg % 5 : Nat) : Int) := wrap_small8 _ (by omega) (by omega)
  clear hr hb hbl
  generalize d.sg % 5 = s5 at *
  refine wp_region_lit ?_
  iterate 6 (refine wpList_val rfl _ (by simp [go_sem, execOp, Act.eval, Act.put, hs, h39', h5, h6, c1, c4, tm, wr, wr8]; first | done | rfl) ?_)
  refine wpList_load_mid rfl 30 (.tmp 23) rfl L.bb 0 (by simp [Act.eval, Act.put, hs, h23]) (u8s L.bid) _ HB.out Yba.underlying30 rfl HI.out ?_
  iterate 2 (refine wpList_val rfl _ (by simp [go_sem, execOp, Act.eval, Act.put, hs, h39', c4]; first | done | rfl) ?_)
  refine wpList_build_any rfl 112 rfl BU.out (by simp [Act.eval, Act.put, hs]) ?_
  refine wpList_box_any rfl 112 (.tmp 186) rfl (c := (qcL (s5 : Int) L.ep L.cf.vw L.bid (.slice d.p d.m d.c)).toArray) (by simp [Act.eval, Act.put, hs, Value.cells]) ?_
  refine wpList_val rfl _ (by simp [go_sem, execOp, Act.eval, Act.put, hs, h23]; first | done | rfl) ?_
  simp only [Act.put]
  go_wp2
  refine K.out _ ?_ ?_ (by simp [hs])
  · (repeat (refine Fr.set ?_ _ _ (by decide)))
    exact FF.out
  · (repeat (refine Same.set ?_ _ _ (by decide)))
    exact Same.refl _ _

set_option maxRecDepth 100000 in
theorem p47 (Q : Exit → Act → World → Prop) (a : Act) (L : Lw) (w : World) (F : Fr a L)
    (k : ∀ a', Fr a' L → Same [34, 35, 36, 37, 38, 39, 40, 41] a a' → a'.tmps[42]? = some (.bool true) → Q .normal a' w) : (nth 3 b6).wp Yba.prog Q a w := by
  unfold nth b6 nth c6
  simp only [Yba.f6, Option.getD, nB, cA, cB, cIn]
  have hs := F.sz
  have FF : Hid (Fr a L) := F
  have K : Hid _ := k
  clear k F
  go_wp2
  refine K.out _ ?_ ?_ (by simp [hs])
  · (repeat (refine Fr.set ?_ _ _ (by decide)))
    exact FF.out
  · (repeat (refine Same.set ?_ _ _ (by decide)))
    exact Same.refl _ _
end Go.Proofs.Ybulkcsck.Ga
