/-
  OWN TEXT. LawS4690CGather: the keys' Verify.
-/
import Derived.Test.YbulkcsckGaE
import Derived.Test.YbulkcsckRt2
namespace Go.Proofs.Ybulkcsck.Ga
open Go.RowKit

section
variable {P : Program} {Q : Exit → Act → World → Prop} {o : Oper} {a : Act} {w : World} {K : Act → World → Prop} {v : Value}
theorem wp_load1 {x : Operand} {ty : TypeId} (b i : Nat) (ho : o.op = .load ty x) (hx : a.eval x = .pointer (some ⟨b, i, none⟩)) (hg : (isAgg ty).run P w = .ok false w) (hc : w.cell? ⟨b, i, none⟩ = some v) (h : K (a.put o.dst v) w) : o.wp P a w K Q := by
  unfold Oper.wp execOp
  simp [ho, hx, Instr.loadAt, Instr.sureAddr, Sem.run_bind, loadVar, hg, hc]
  exact h
theorem wp_store1 {x y : Operand} {ty : TypeId} (b i : Nat) (ho : o.op = .store ty x y) (hx : a.eval x = .pointer (some ⟨b, i, none⟩)) {p : Option Addr} {n c : Nat} (hy : a.eval y = .slice p n c) (hz : (sizeOf ty).run P w = .ok 1 w) {u : Value} (hc : w.cell? ⟨b, i, none⟩ = some u) (hf : w.frozen? ⟨b, i, none⟩ = false)
    (h : K (a.put o.dst undef) (w.setCell ⟨b, i, none⟩ (.slice p n c))) : o.wp P a w K Q := by
  unfold Oper.wp execOp
  simp only [ho, hx, hy]
  simp [Instr.storeAt, Instr.sureAddr, storeVar, hz, storeCells, go_sem, hc, hf, Sem.run_bind]
  exact h
end

/-- what Verify does -/
def VerP (ρ : Nat → Nat) (kb : Nat) (ans : Bool) (frm : List Int) (stm : List (List Int)) (w : World) (e : Ending) (w' : World) : Prop :=
  ∃ ρ', e = .returned (.bool ans) ∧ Ky ρ' kb ans frm stm w' ∧ Chg ρ ρ' (fun r => r = 2 ∨ r = 12 ∨ r = 13 ∨ r = 14) w w'

theorem size76 (w : World) : (sizeOf 76).run Yba.prog w = .ok 1 w := by kernel_rfl
theorem build76 (v : Value) (hv : v.oneCell' = true) (p : Option Addr) (n c : Nat) (e : v = .slice p n c) (w : World) : (Instr.buildSlice 76 1 #[(0, v)]).run Yba.prog w = .ok (.slice (some ⟨w.heap.size, 0, none⟩) 1 1) (w.alloc (.cells #[v] 37)) := by
  subst e
  simp [go_sem]

/-- the part of Verify that lies behind the clone -/
theorem ver_end {ρ : Nat → Nat} {kb : Nat} {ans : Bool} {frm' : List Int} {stm : List (List Int)} {l : List Int} {N : Nat} {ss : List Value} {vf vn vs : Value} {w : World}
    (hk : Bk ρ 2 w kb #[.nilIface, .bool ans, vf, vn, vs] 98) (hf : Rw ρ 12 3 1 w vf (N + 1) (i64s frm')) (hn : Rw ρ 13 3 1 w vn (N + 1) (i64s (List.replicate (N + 1) 1))) (hs : Rw ρ 14 37 1 w vs N ss) (hst : Sts ρ 18 w ss stm) (hN : N + 1 = frm'.length) (hle : N ≤ 900) (hl : l.length = 71)
    {v5 : Value} (h5 : Rw ρ 18 5 1 w v5 71 (u8s l)) :
    ∃ p c w' ρ', (Builtin.append_ #[76, 76] 76 #[vs, .slice (some ⟨w.heap.size, 0, none⟩) 1 1]).run Yba.prog (w.alloc (.cells #[v5] 37)) = .ok (.slice p (N + 1) c) w' ∧ w'.cell? ⟨kb, 4, none⟩ = some vs ∧ w'.frozen? ⟨kb, 4, none⟩ = false ∧
      (w'.setCell ⟨kb, 4, none⟩ (.slice p (N + 1) c)).cell? ⟨kb, 1, none⟩ = some (.bool ans) ∧ Ky ρ' kb ans frm' (stm ++ [l]) (w'.setCell ⟨kb, 4, none⟩ (.slice p (N + 1) c)) ∧ Chg ρ ρ' (fun r => r = 2 ∨ r = 14) w (w'.setCell ⟨kb, 4, none⟩ (.slice p (N + 1) c)) := by
  obtain ⟨p, c, w', ρ', hr, hw, hc⟩ := hs.app ti37 (by decide) (by decide) [v5] rfl (fun u hu => by
    simp only [List.mem_singleton] at hu
    subst hu
    obtain ⟨p5, c5, rfl⟩ := h5.shape
    rfl) (by omega)
  have hk' := hk.chg hc (by decide)
  have c2 : Chg ρ' ρ' (fun r => r = 2 ∨ r = 14) w' (w'.setCell ⟨kb, 4, none⟩ (.slice p (N + 1) c)) := Chg.setCell w' kb 4 _ (by rw [hk'.r]; exact .inl rfl)
  have c2' : Chg ρ' ρ' (fun r => r = 2) w' (w'.setCell ⟨kb, 4, none⟩ (.slice p (N + 1) c)) := Chg.setCell w' kb 4 _ hk'.r
  have hk2 : Bk ρ' 2 (w'.setCell ⟨kb, 4, none⟩ (.slice p (N + 1) c)) kb #[.nilIface, .bool ans, vf, vn, .slice p (N + 1) c] 98 := hk'.set 4 _
  refine ⟨p, c, w', ρ', hr, hk'.cell rfl, hk'.fz 4, hk2.cell rfl, ?_, (hc.mono (fun r h => .inr h)).trans c2⟩
  have hst' : Sts ρ' 18 (w'.setCell ⟨kb, 4, none⟩ (.slice p (N + 1) c)) (ss ++ [v5]) (stm ++ [l]) := ((hst.chg hc (by decide)).chg c2' (by decide)).snoc hl ((h5.chg hc (by decide)).chg c2' (by decide))
  refine ⟨vf, vn, .slice p (N + 1) c, ss ++ [v5], hk2, ?_, ?_, ?_, hst', by omega⟩
  · rw [← hN]; exact (hf.chg hc (by decide)).chg c2' (by decide)
  · rw [← hN]; exact (hn.chg hc (by decide)).chg c2' (by decide)
  · rw [← hN]; exact hw.chg c2' (by decide)

set_option maxRecDepth 100000 in
set_option maxHeartbeats 400000 in
theorem verify (ρ : Nat → Nat) (kb sb gb c : Nat) (ans : Bool) (frm : List Int) (stm : List (List Int)) (fr : Int) (l : List Int) (w : World) (h : Ky ρ kb ans frm stm w) (hs : w.cell? ⟨sb, 0, none⟩ = some (.int .i64 fr))
    (hg : Rw ρ 18 5 1 w (.slice (some ⟨gb, 0, none⟩) 71 c) 71 (u8s l)) (hl : l.length = 71) (hle : frm.length ≤ 900) :
    Calls Yba.prog 77 #[.pointer (some ⟨kb, 0, none⟩), .slice (some ⟨gb, 0, none⟩) 71 c, .slice (some ⟨sb, 0, none⟩) 1 1] w (VerP ρ kb ans (frm ++ [fr]) (stm ++ [l]) w) := by
  obtain ⟨vf, vn, vs, ss, hk, hf, hn, hss, hst, -⟩ := h
  obtain ⟨N, hN⟩ : ∃ N, N = frm.length := ⟨_, rfl⟩
  rw [← hN] at hf hn hss hle
  obtain ⟨pf, cf, rfl⟩ := hf.shape
  obtain ⟨pn, cn, rfl⟩ := hn.shape
  obtain ⟨ps, cs, rfl⟩ := hss.shape
  obtain ⟨p1, c1, w1, ρ1, r1, f1, g1⟩ := hf.app ti3 (by decide) (by decide) [.int .i64 fr] rfl (fun u hu => by simp only [List.mem_singleton] at hu; subst hu; rfl) (by omega)
  have hk1 := hk.chg g1 (by decide)
  have g2 : Chg ρ1 ρ1 (· = 2) w1 (w1.setCell ⟨kb, 2, none⟩ (.slice p1 (N + 1) c1)) := Chg.setCell w1 kb 2 _ hk1.r
  have hk2 : Bk ρ1 2 (w1.setCell ⟨kb, 2, none⟩ (.slice p1 (N + 1) c1)) kb #[.nilIface, .bool ans, .slice p1 (N + 1) c1, .slice pn N cn, .slice ps N cs] 98 := hk1.set 2 _
  obtain ⟨w2, e2⟩ : ∃ w2, w2 = w1.setCell ⟨kb, 2, none⟩ (.slice p1 (N + 1) c1) := ⟨_, rfl⟩
  rw [← e2] at g2 hk2
  have hn2 := (hn.chg g1 (by decide)).chg g2 (by decide)
  obtain ⟨p3, c3, w3, ρ3, r3, f3, g3⟩ := hn2.app ti3 (by decide) (by decide) [.int .i64 1] rfl (fun u hu => by simp only [List.mem_singleton] at hu; subst hu; rfl) (by omega)
  have hk3 := hk2.chg g3 (by decide)
  have g4 : Chg ρ3 ρ3 (· = 2) w3 (w3.setCell ⟨kb, 3, none⟩ (.slice p3 (N + 1) c3)) := Chg.setCell w3 kb 3 _ hk3.r
  have hk4 : Bk ρ3 2 (w3.setCell ⟨kb, 3, none⟩ (.slice p3 (N + 1) c3)) kb #[.nilIface, .bool ans, .slice p1 (N + 1) c1, .slice p3 (N + 1) c3, .slice ps N cs] 98 := hk3.set 3 _
  obtain ⟨w4, e4⟩ : ∃ w4, w4 = w3.setCell ⟨kb, 3, none⟩ (.slice p3 (N + 1) c3) := ⟨_, rfl⟩
  rw [← e4] at g4 hk4
  have f4 := (((f1.chg g2 (by decide)).chg g3 (by decide)).chg g4 (by decide))
  have n4 := f3.chg g4 (by decide)
  have s4 := ((((hss.chg g1 (by decide)).chg g2 (by decide)).chg g3 (by decide)).chg g4 (by decide))
  have t4 := ((((hst.chg g1 (by decide)).chg g2 (by decide)).chg g3 (by decide)).chg g4 (by decide))
  have st4 := ((((hg.chg g1 (by decide)).chg g2 (by decide)).chg g3 (by decide)).chg g4 (by decide))
  have rep : i64s (List.replicate N 1) ++ [.int .i64 1] = i64s (List.replicate (N + 1) 1) := by rw [i64s_snoc, List.replicate_succ']
  rw [i64s_snoc] at f4
  rw [rep] at n4
  have G4 : Chg ρ ρ3 (fun r => r = 2 ∨ r = 12 ∨ r = 13 ∨ r = 14) w w4 := (((g1.mono (fun r h => .inr (.inl h))).trans (g2.mono (fun r h => .inl h))).trans (g3.mono (fun r h => .inr (.inr (.inl h))))).trans (g4.mono (fun r h => .inl h))
  have hgc : Hid (∀ j u, (u8s l)[j]? = some u → w4.drew.cell? ⟨gb, j, none⟩ = some u) := fun j u hj => by
    obtain ⟨g, cap, e, _, hc⟩ := st4.cell hj
    cases e
    exact hc
  have hgl : Hid (gb < w4.drew.heap.size) := by
    obtain ⟨u, hu⟩ : ∃ u, (u8s l)[0]? = some u := ⟨_, List.getElem?_eq_getElem (by simp [u8s, hl])⟩
    exact World.block_lt_of_cell? w4.drew _ (hgc.out 0 u hu)
  have CLN : Hid (Calls Yba.prog 78 #[.slice (some ⟨gb, 0, none⟩) 71 c] w4.drew (OwnP w4.drew.heap.size w4.drew 71 (u8s l))) := by
    have q := clone78 gb c l w4.drew (by omega) hgc.out hgl.out
    rw [hl] at q
    exact q
  -- the keys' cells, as the walk meets them
  have a0 : w.cell? ⟨kb, 2, none⟩ = some (.slice pf N cf) := hk.cell rfl
  have a1 : w1.cell? ⟨kb, 2, none⟩ = some (.slice pf N cf) := hk1.cell rfl
  have z1 := hk1.fz 2
  have a2 : w2.cell? ⟨kb, 3, none⟩ = some (.slice pn N cn) := hk2.cell rfl
  have a3 : w3.cell? ⟨kb, 3, none⟩ = some (.slice pn N cn) := hk3.cell rfl
  have z3 := hk3.fz 3
  have a4 : Hid (w4.cell? ⟨kb, 4, none⟩ = some (.slice ps N cs)) := hk4.cell (i := 4) rfl
  have HAP1 : Hid ((Builtin.append_ #[60, 60] 60 #[.slice pf N cf, .slice (some ⟨w.heap.size, 0, none⟩) 1 1]).run Yba.prog (w.alloc (.cells #[.int .i64 fr] 3)) = .ok (.slice p1 (N + 1) c1) w1) := r1
  have HAP3 : Hid ((Builtin.append_ #[60, 60] 60 #[.slice pn N cn, .slice (some ⟨w2.heap.size, 0, none⟩) 1 1]).run Yba.prog (w2.alloc (.cells #[.int .i64 1] 3)) = .ok (.slice p3 (N + 1) c3) w3) := r3
  -- behind the clone
  have CL : Hid (∀ p5 c5 w5, w5.ownsRow w4.drew.heap.size 5 1 (.slice p5 71 c5) 71 (u8s l) → Below w4.drew.heap.size w4.drew w5 → w5.cell? ⟨kb, 4, none⟩ = some (.slice ps N cs) ∧ ∃ p c w' ρ', (Builtin.append_ #[76, 76] 76 #[.slice ps N cs, .slice (some ⟨w5.heap.size, 0, none⟩) 1 1]).run Yba.prog (w5.alloc (.cells #[.slice p5 71 c5] 37)) = .ok (.slice p (N + 1) c) w' ∧ w'.cell? ⟨kb, 4, none⟩ = some (.slice ps N cs) ∧ w'.frozen? ⟨kb, 4, none⟩ = false ∧
      (w'.setCell ⟨kb, 4, none⟩ (.slice p (N + 1) c)).cell? ⟨kb, 1, none⟩ = some (.bool ans) ∧ VerP ρ kb ans (frm ++ [fr]) (stm ++ [l]) w (.returned (.bool ans)) (w'.setCell ⟨kb, 4, none⟩ (.slice p (N + 1) c))) := fun p5 c5 w5 ho hb => by
    have gd : Chg ρ3 ρ3 (fun _ => False) w4 w4.drew := Chg.drew w4
    have g5 : Chg ρ3 (rx ρ3 w4 18) (fun _ => False) w4.drew w5 := Chg.of_below hb 18
    have gg := gd.trans g5
    have h5 : Rw (rx ρ3 w4 18) 18 5 1 w5 (.slice p5 71 c5) 71 (u8s l) := rw_own ho (Nat.le_refl _)
    have hk5 := hk4.chg gg (fun q => q)
    refine ⟨hk5.cell rfl, ?_⟩
    obtain ⟨p, c, w', ρ', q1, q2, q3, q4, q5, q6⟩ := ver_end hk5 (f4.chg gg (fun q => q)) (n4.chg gg (fun q => q)) (s4.chg gg (fun q => q)) (t4.chg gg (fun q => q)) (by simp [hN]) hle hl h5
    exact ⟨p, c, w', ρ', q1, q2, q3, q4, ρ', rfl, q5, (G4.trans (gg.mono (fun _ q => q.elim))).trans (q6.mono (fun r h => h.elim .inl (fun h => .inr (.inr (.inr h)))))⟩
  clear hk hf hn hss hst r1 f1 g1 hk1 g2 hk2 hn2 r3 f3 g3 hk3 g4 hk4 f4 n4 s4 t4 st4 rep G4 hg hl hN hle
  generalize N + 1 = N1 at *
  have E2 : Hid (w2 = w1.setCell ⟨kb, 2, none⟩ (.slice p1 N1 c1)) := e2
  have E4 : Hid (w4 = w3.setCell ⟨kb, 3, none⟩ (.slice p3 N1 c3)) := e4
  clear e2 e4
  go_enter Yba.func77, Yba.ntmps77
  go_upto_region 5 with (at_builtin; (with_reducible refine wpList_append_any ?_ (.tmp 19) (.tmp 21) 60 60 60 ?_ ?_ (v := .slice pf N cf) (y := .slice (some ⟨w.heap.size, 0, none⟩) 1 1) ?_ ?_ HAP1.out ?_); (first | exact rfl | skip); (first | exact rfl | skip); (first | exact rfl | skip); (first | exact rfl | skip); (first | exact rfl | skip))
  rw [← E2.out]
  clear HAP1 a0 a1 z1 E2
  go_upto_region 6 with (at_builtin; (with_reducible refine wpList_append_any ?_ (.tmp 29) (.tmp 32) 60 60 60 ?_ ?_ (v := .slice pn N cn) (y := .slice (some ⟨w2.heap.size, 0, none⟩) 1 1) ?_ ?_ HAP3.out ?_); (first | exact rfl | skip); (first | exact rfl | skip); (first | exact rfl | skip); (first | exact rfl | skip); (first | exact rfl | skip))
  rw [← E4.out]
  clear HAP3 a2 a3 z3 E4
  refine Rt.regionL (fun _ => True) [some (.pointer (some ⟨kb, 0, none⟩)), some (.pointer (some ⟨kb, 0, none⟩)), some (.pointer (some ⟨kb, 0, none⟩)), some (.pointer (some ⟨kb, 4, none⟩)), none, some (.slice (some ⟨gb, 0, none⟩) 71 c)] 7
    (by kernel_rfl) (by kernel_rfl) (by kernel_rfl) (by kernel_rfl) (by kernel_rfl) trivial ?_ ?_
  · refine Rt.yc (Rt.y_move (by kernel_rfl) rfl (by kernel_rfl)) ?_
    refine Rt.yc (Rt.y_move (by kernel_rfl) rfl (by kernel_rfl)) ?_
    refine Rt.yc (Rt.y_nil (by kernel_rfl) rfl (by kernel_rfl)) ?_
    refine Rt.yc (Rt.y_field 0 0 (by kernel_rfl) rfl (by kernel_rfl) Yba.underlying98 rfl (by kernel_rfl) rfl) ?_
    refine Rt.yn ?_
    refine Rt.yc (Rt.y_move (by kernel_rfl) rfl (by kernel_rfl)) ?_
    exact Rt.ye
  refine Rt.twoL 4 6 (by kernel_rfl) rfl rfl (by kernel_rfl) (by kernel_rfl) ?_ ?_
  · skip
    with_reducible refine wp_load1 (v := .slice ps N cs) kb 4 rfl ?_ ?_ ?_ ?_
    · kernel_rfl
    · exact Yba.isAgg76 _
    · exact a4.out
    refine ⟨trivial, ?_⟩
    refine Rt.oneL 6 (by kernel_rfl) rfl (by kernel_rfl) ?_
    with_reducible refine Rt.wp_call (vs := #[.slice (some ⟨gb, 0, none⟩) 71 c]) rfl ?_ (Yba.call78 _) ?_
    · kernel_rfl
    refine CLN.out.mono ?_
    rintro x w5 ⟨v5, rfl, ho5, hb5⟩
    obtain ⟨p5, c5, rfl⟩ := owns_shape ho5
    obtain ⟨k5, p6, c6, w6, ρ6, hap6, q6, z6, q7, fin⟩ := CL.out p5 c5 w5 ho5 hb5
    refine ⟨_, rfl, trivial, ?_⟩
    refine Rt.oneL 7 (by kernel_rfl) rfl (by kernel_rfl) ?_
    refine Rt.wp_buildSlice (vs := #[(0, .slice p5 71 c5)]) rfl (by kernel_rfl) (build76 (.slice p5 71 c5) rfl p5 71 c5 rfl w5) ?_
    refine ⟨trivial, ?_⟩
    refine Rt.oneL 8 (by kernel_rfl) rfl (by kernel_rfl) ?_
    with_reducible refine wp_append (.tmp 40) (.tmp 43) 76 76 76 (v := .slice ps N cs) (y := .slice (some ⟨w5.heap.size, 0, none⟩) 1 1) rfl rfl ?_ ?_ hap6 ?_
    · kernel_rfl
    · kernel_rfl
    refine ⟨trivial, ?_⟩
    refine Rt.moreL [none, none, none, none, none, none, none, none, none, some (.pointer (some ⟨kb, 0, none⟩)), some (.pointer (some ⟨kb, 4, none⟩))] 1 (by kernel_rfl) (by kernel_rfl) (by kernel_rfl) (by kernel_rfl) trivial ?_ ?_
    · refine Rt.yn (Rt.yn (Rt.yn (Rt.yn (Rt.yn (Rt.yn (Rt.yn (Rt.yn (Rt.yn ?_))))))))
      refine Rt.yc (Rt.y_nil (by kernel_rfl) rfl (by kernel_rfl)) ?_
      refine Rt.yc (Rt.y_field 0 0 (by kernel_rfl) rfl (by kernel_rfl) Yba.underlying98 rfl (by kernel_rfl) rfl) ?_
      exact Rt.ye
    refine Rt.oneL 11 (by kernel_rfl) rfl (by kernel_rfl) ?_
    with_reducible refine wp_store1 (p := p6) (n := N1) (c := c6) (u := .slice ps N cs) kb 4 rfl ?_ ?_ ?_ ?_ ?_ ?_
    · kernel_rfl
    · kernel_rfl
    · exact size76 _
    · exact q6
    · exact z6
    refine ⟨trivial, ?_⟩
    with_reducible refine Rt.done ?_ ?_ 0
    · kernel_rfl
    simp only [Rt.putL, Act.put, List.setIfInBounds_toArray, List.set_cons_succ, List.set_cons_zero]
    go_wp2
    go_ret
    exact fin
  · skip
    with_reducible refine Rt.wp_call (vs := #[.slice (some ⟨gb, 0, none⟩) 71 c]) rfl ?_ (Yba.call78 _) ?_
    · kernel_rfl
    refine CLN.out.mono ?_
    rintro x w5 ⟨v5, rfl, ho5, hb5⟩
    obtain ⟨p5, c5, rfl⟩ := owns_shape ho5
    obtain ⟨k5, p6, c6, w6, ρ6, hap6, q6, z6, q7, fin⟩ := CL.out p5 c5 w5 ho5 hb5
    refine ⟨_, rfl, trivial, ?_⟩
    refine Rt.twoL 4 7 (by kernel_rfl) rfl rfl (by kernel_rfl) (by kernel_rfl) ?_ ?_
    · skip
      with_reducible refine wp_load1 (v := .slice ps N cs) kb 4 rfl ?_ ?_ ?_ ?_
      · kernel_rfl
      · exact Yba.isAgg76 _
      · exact k5
      refine ⟨trivial, ?_⟩
      refine Rt.oneL 7 (by kernel_rfl) rfl (by kernel_rfl) ?_
      refine Rt.wp_buildSlice (vs := #[(0, .slice p5 71 c5)]) rfl (by kernel_rfl) (build76 (.slice p5 71 c5) rfl p5 71 c5 rfl w5) ?_
      refine ⟨trivial, ?_⟩
      refine Rt.oneL 8 (by kernel_rfl) rfl (by kernel_rfl) ?_
      with_reducible refine wp_append (.tmp 40) (.tmp 43) 76 76 76 (v := .slice ps N cs) (y := .slice (some ⟨w5.heap.size, 0, none⟩) 1 1) rfl rfl ?_ ?_ hap6 ?_
      · kernel_rfl
      · kernel_rfl
      refine ⟨trivial, ?_⟩
      refine Rt.moreL [none, none, none, none, none, none, none, none, none, some (.pointer (some ⟨kb, 0, none⟩)), some (.pointer (some ⟨kb, 4, none⟩))] 1 (by kernel_rfl) (by kernel_rfl) (by kernel_rfl) (by kernel_rfl) trivial ?_ ?_
      · refine Rt.yn (Rt.yn (Rt.yn (Rt.yn (Rt.yn (Rt.yn (Rt.yn (Rt.yn (Rt.yn ?_))))))))
        refine Rt.yc (Rt.y_nil (by kernel_rfl) rfl (by kernel_rfl)) ?_
        refine Rt.yc (Rt.y_field 0 0 (by kernel_rfl) rfl (by kernel_rfl) Yba.underlying98 rfl (by kernel_rfl) rfl) ?_
        exact Rt.ye
      refine Rt.oneL 11 (by kernel_rfl) rfl (by kernel_rfl) ?_
      with_reducible refine wp_store1 (p := p6) (n := N1) (c := c6) (u := .slice ps N cs) kb 4 rfl ?_ ?_ ?_ ?_ ?_ ?_
      · kernel_rfl
      · kernel_rfl
      · exact size76 _
      · exact q6
      · exact z6
      refine ⟨trivial, ?_⟩
      with_reducible refine Rt.done ?_ ?_ 0
      · kernel_rfl
      simp only [Rt.putL, Act.put, List.setIfInBounds_toArray, List.set_cons_succ, List.set_cons_zero]
      go_wp2
      go_ret
      exact fin
    · skip
      refine Rt.wp_buildSlice (vs := #[(0, .slice p5 71 c5)]) rfl (by kernel_rfl) (build76 (.slice p5 71 c5) rfl p5 71 c5 rfl w5) ?_
      refine ⟨trivial, ?_⟩
      refine Rt.oneL 4 (by kernel_rfl) rfl (by kernel_rfl) ?_
      with_reducible refine wp_load1 (v := .slice ps N cs) kb 4 rfl ?_ ?_ ?_ ?_
      · kernel_rfl
      · exact Yba.isAgg76 _
      · exact ((((Below.refl _ w5).alloc (Nat.le_refl _) _).cell (p := ⟨kb, 4, none⟩) (World.block_lt_of_cell? w5 _ k5)).trans k5)
      refine ⟨trivial, ?_⟩
      refine Rt.oneL 8 (by kernel_rfl) rfl (by kernel_rfl) ?_
      with_reducible refine wp_append (.tmp 40) (.tmp 43) 76 76 76 (v := .slice ps N cs) (y := .slice (some ⟨w5.heap.size, 0, none⟩) 1 1) rfl rfl ?_ ?_ hap6 ?_
      · kernel_rfl
      · kernel_rfl
      refine ⟨trivial, ?_⟩
      refine Rt.moreL [none, none, none, none, none, none, none, none, none, some (.pointer (some ⟨kb, 0, none⟩)), some (.pointer (some ⟨kb, 4, none⟩))] 1 (by kernel_rfl) (by kernel_rfl) (by kernel_rfl) (by kernel_rfl) trivial ?_ ?_
      · refine Rt.yn (Rt.yn (Rt.yn (Rt.yn (Rt.yn (Rt.yn (Rt.yn (Rt.yn (Rt.yn ?_))))))))
        refine Rt.yc (Rt.y_nil (by kernel_rfl) rfl (by kernel_rfl)) ?_
        refine Rt.yc (Rt.y_field 0 0 (by kernel_rfl) rfl (by kernel_rfl) Yba.underlying98 rfl (by kernel_rfl) rfl) ?_
        exact Rt.ye
      refine Rt.oneL 11 (by kernel_rfl) rfl (by kernel_rfl) ?_
      with_reducible refine wp_store1 (p := p6) (n := N1) (c := c6) (u := .slice ps N cs) kb 4 rfl ?_ ?_ ?_ ?_ ?_ ?_
      · kernel_rfl
      · kernel_rfl
      · exact size76 _
      · exact q6
      · exact z6
      refine ⟨trivial, ?_⟩
      with_reducible refine Rt.done ?_ ?_ 0
      · kernel_rfl
      simp only [Rt.putL, Act.put, List.setIfInBounds_toArray, List.set_cons_succ, List.set_cons_zero]
      go_wp2
      go_ret
      exact fin
end Go.Proofs.Ybulkcsck.Ga
