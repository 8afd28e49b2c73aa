/-
  OWN TEXT. LawS4690CGather: remember at any map; broadcast.
-/
import Derived.Test.YbulkcsckGaJ
namespace Go.Proofs.Ybulkcsck.Ga
open Go.RowKit

theorem size58 (w : World) : (sizeOf 58).run Yba.prog w = .ok 1 w := by kernel_rfl
theorem build58 (id : Int) (qb : Nat) (w : World) : (Instr.buildSlice 58 1 #[(0, .agg #[.int .i64 id, .iface 120 (.pointer (some ⟨qb, 0, none⟩))])]).run Yba.prog w = .ok (.slice (some ⟨w.heap.size, 0, none⟩) 1 1) (w.alloc (.cells #[.int .i64 id, .iface 120 (.pointer (some ⟨qb, 0, none⟩))] 125)) := by
  simp [go_sem]

/-- what broadcast does -/
def BcP (ρ : Nat → Nat) (c : Cf) (mV : Value) (k : Nat) (sn ib : List Value) (w : World) (e : Ending) (w' : World) : Prop :=
  e = .returned (.tuple #[]) ∧ ∃ ρ' C inV snV, Bk ρ' 1 w' c.rb C 72 ∧ RC c inV mV snV C ∧ Rw ρ' 15 119 2 w' snV k sn ∧ Rw ρ' 16 125 2 w' inV k ib ∧ Chg ρ ρ' (fun r => r = 1 ∨ r = 15 ∨ r = 16) w w'

set_option maxRecDepth 100000 in
set_option maxHeartbeats 1600000 in
theorem broadcast (ρ : Nat → Nat) (cf : Cf) (C : Array Value) (inV mV snV : Value) (N qb : Nat) (sn ib : List Value) (w : World) (hk : Bk ρ 1 w cf.rb C 72) (hr : RC cf inV mV snV C) (hs : Rw ρ 15 119 2 w snV N sn) (hi : Rw ρ 16 125 2 w inV N ib) (hN : N ≤ 100) :
    Calls Yba.prog 31 #[.pointer (some ⟨cf.rb, 0, none⟩), .iface 120 (.pointer (some ⟨qb, 0, none⟩))] w (BcP ρ cf mV (N + 1) (sn ++ [.int .i64 (-1), .iface 120 (.pointer (some ⟨qb, 0, none⟩))]) (ib ++ [.int .i64 cf.id, .iface 120 (.pointer (some ⟨qb, 0, none⟩))]) w) := by
  obtain ⟨ps, cs, rfl⟩ := hs.shape
  obtain ⟨pi, ci, rfl⟩ := hi.shape
  obtain ⟨p1, c1, w1, ρ1, r1, s1, g1⟩ := hs.app ti119 (by decide) (by decide) [.int .i64 (-1), .iface 120 (.pointer (some ⟨qb, 0, none⟩))] rfl (fun u hu => by simp at hu; rcases hu with rfl | rfl <;> rfl) (by omega)
  have hk1 := hk.chg g1 (by decide)
  have g2 : Chg ρ1 ρ1 (· = 1) w1 (w1.setCell ⟨cf.rb, 109, none⟩ (.slice p1 (N + 1) c1)) := Chg.setCell w1 cf.rb 109 _ hk1.r
  have hk2 := hk1.set 109 (.slice p1 (N + 1) c1)
  have hr2 := hr.setSn (.slice p1 (N + 1) c1)
  obtain ⟨w2, e2⟩ : ∃ w2, w2 = w1.setCell ⟨cf.rb, 109, none⟩ (.slice p1 (N + 1) c1) := ⟨_, rfl⟩
  rw [← e2] at g2 hk2
  have hi2 := (hi.chg g1 (by decide)).chg g2 (by decide)
  have gd : Chg ρ1 ρ1 (fun _ => False) w2 w2.drew := Chg.drew w2
  have hid := hi2.chg gd (fun q => q)
  have hkd := hk2.chg gd (fun q => q)
  obtain ⟨p3, c3, w3, ρ3, r3, i3, g3⟩ := hid.app ti125 (by decide) (by decide) [.int .i64 cf.id, .iface 120 (.pointer (some ⟨qb, 0, none⟩))] rfl (fun u hu => by simp at hu; rcases hu with rfl | rfl <;> rfl) (by omega)
  have hk3 := hkd.chg g3 (by decide)
  have g4 : Chg ρ3 ρ3 (· = 1) w3 (w3.setCell ⟨cf.rb, 102, none⟩ (.slice p3 (N + 1) c3)) := Chg.setCell w3 cf.rb 102 _ hk3.r
  have hk4 := hk3.set 102 (.slice p3 (N + 1) c3)
  have hr4 := hr2.setIn (.slice p3 (N + 1) c3)
  have s4 := (((s1.chg g2 (by decide)).chg gd (fun q => q)).chg g3 (by decide)).chg g4 (by decide)
  have i4 := i3.chg g4 (by decide)
  have FIN : Hid (BcP ρ cf mV (N + 1) (sn ++ [.int .i64 (-1), .iface 120 (.pointer (some ⟨qb, 0, none⟩))]) (ib ++ [.int .i64 cf.id, .iface 120 (.pointer (some ⟨qb, 0, none⟩))]) w (.returned (.tuple #[])) (w3.setCell ⟨cf.rb, 102, none⟩ (.slice p3 (N + 1) c3))) :=
    ⟨rfl, ρ3, _, _, _, hk4, hr4, s4, i4, ((((g1.mono (fun r h => .inr (.inl h))).trans (g2.mono (fun r h => .inl h))).trans (gd.mono (fun _ h => h.elim))).trans (g3.mono (fun r h => .inr (.inr h)))).trans (g4.mono (fun r h => .inl h))⟩
  have a0 : w.cell? ⟨cf.rb, 109, none⟩ = some (.slice ps N cs) := hk.cell hr.sn
  have a1 : w1.cell? ⟨cf.rb, 109, none⟩ = some (.slice ps N cs) := hk1.cell hr.sn
  have z1 := hk1.fz 109
  have a2 : Hid (w2.drew.cell? ⟨cf.rb, 102, none⟩ = some (.slice pi N ci)) := hkd.cell hr2.inb
  have ba : Below w2.drew.heap.size w2.drew (w2.drew.alloc (.cells #[.int .i64 cf.id, .iface 120 (.pointer (some ⟨qb, 0, none⟩))] 125)) := (Below.refl _ _).alloc (Nat.le_refl _) _
  have a2' : Hid ((w2.drew.alloc (.cells #[.int .i64 cf.id, .iface 120 (.pointer (some ⟨qb, 0, none⟩))] 125)).cell? ⟨cf.rb, 102, none⟩ = some (.slice pi N ci)) := (ba.cell (p := ⟨cf.rb, 102, none⟩) hkd.lt).trans a2.out
  have S0 : Hid (w2.drew.cell? ⟨cf.rb, 0, none⟩ = some (.int .i64 cf.id)) := hkd.cell hr2.id
  have S1 : Hid ((w2.drew.alloc (.cells #[.int .i64 cf.id, .iface 120 (.pointer (some ⟨qb, 0, none⟩))] 125)).cell? ⟨cf.rb, 0, none⟩ = some (.int .i64 cf.id)) := (ba.cell (p := ⟨cf.rb, 0, none⟩) hkd.lt).trans S0.out
  have S3 : Hid (w3.cell? ⟨cf.rb, 0, none⟩ = some (.int .i64 cf.id)) := hk3.cell hr2.id
  have S4 : Hid ((w3.setCell ⟨cf.rb, 102, none⟩ (.slice p3 (N + 1) c3)).cell? ⟨cf.rb, 0, none⟩ = some (.int .i64 cf.id)) := hk4.cell hr4.id
  have a3 : Hid (w3.cell? ⟨cf.rb, 102, none⟩ = some (.slice pi N ci)) := hk3.cell hr2.inb
  have z3 : Hid (w3.frozen? ⟨cf.rb, 102, none⟩ = false) := hk3.fz 102
  have HAP1 : Hid ((Builtin.append_ #[65, 65] 65 #[.slice ps N cs, .slice (some ⟨w.heap.size, 0, none⟩) 1 1]).run Yba.prog (w.alloc (.cells #[.int .i64 (-1), .iface 120 (.pointer (some ⟨qb, 0, none⟩))] 119)) = .ok (.slice p1 (N + 1) c1) w1) := r1
  have HAP3 : Hid ((Builtin.append_ #[58, 58] 58 #[.slice pi N ci, .slice (some ⟨w2.heap.size, 0, none⟩) 1 1]).run Yba.prog (w2.drew.alloc (.cells #[.int .i64 cf.id, .iface 120 (.pointer (some ⟨qb, 0, none⟩))] 125)) = .ok (.slice p3 (N + 1) c3) w3) := r3
  have E2 : Hid (w2 = w1.setCell ⟨cf.rb, 109, none⟩ (.slice p1 (N + 1) c1)) := e2
  clear hk hr hs hi r1 s1 g1 hk1 g2 hk2 hr2 hi2 gd hid hkd r3 i3 g3 hk3 g4 hk4 hr4 s4 i4 ba e2 hN
  generalize (cf.id : Int) = id at *
  generalize cf.rb = rb at *
  generalize N + 1 = N1 at *
  go_enter Yba.func31, Yba.ntmps31
  go_upto_region 1 with (at_builtin; (with_reducible refine wpList_append_any ?_ (.tmp 9) (.tmp 12) 65 65 65 ?_ ?_ (v := .slice ps N cs) (y := .slice (some ⟨w.heap.size, 0, none⟩) 1 1) ?_ ?_ HAP1.out ?_); (first | exact rfl | skip); (first | exact rfl | skip); (first | exact rfl | skip); (first | exact rfl | skip); (first | exact rfl | skip))
  rw [← E2.out]
  clear HAP1 a0 a1 z1 E2
  refine Rt.regionL (fun w' => w'.cell? ⟨rb, 0, none⟩ = some (.int .i64 id)) [some (.pointer (some ⟨rb, 0, none⟩)), some (.pointer (some ⟨rb, 0, none⟩)), some (.pointer (some ⟨rb, 0, none⟩)), some (.pointer (some ⟨rb, 102, none⟩)), none, some (.pointer (some ⟨rb, 0, none⟩)), some (.pointer (some ⟨rb, 0, none⟩)), some (.pointer (some ⟨rb, 0, none⟩)), some (.int .i64 id), some (.iface 120 (.pointer (some ⟨qb, 0, none⟩))), some (.agg #[.int .i64 id, .iface 120 (.pointer (some ⟨qb, 0, none⟩))])] 6
    (by kernel_rfl) (by kernel_rfl) (by kernel_rfl) (by kernel_rfl) (by kernel_rfl) S0.out ?_ ?_
  · refine Rt.yc (Rt.y_move (by kernel_rfl) rfl (by kernel_rfl)) ?_
    refine Rt.yc (Rt.y_move (by kernel_rfl) rfl (by kernel_rfl)) ?_
    refine Rt.yc (Rt.y_nil (by kernel_rfl) rfl (by kernel_rfl)) ?_
    refine Rt.yc (Rt.y_field 0 0 (by kernel_rfl) rfl (by kernel_rfl) Yba.underlying72 rfl (by kernel_rfl) rfl) ?_
    refine Rt.yn ?_
    refine Rt.yc (Rt.y_move (by kernel_rfl) rfl (by kernel_rfl)) ?_
    refine Rt.yc (Rt.y_nil (by kernel_rfl) rfl (by kernel_rfl)) ?_
    refine Rt.yc (Rt.y_field 0 0 (by kernel_rfl) rfl (by kernel_rfl) Yba.underlying72 rfl (by kernel_rfl) rfl) ?_
    refine Rt.yc (Rt.y_load rb 0 (by kernel_rfl) rfl (by kernel_rfl) Yba.isAgg3 (fun w h => h)) ?_
    refine Rt.yc (Rt.y_move (by kernel_rfl) rfl (by kernel_rfl)) ?_
    refine Rt.yc (Rt.y_build (vs := [(0, .int .i64 id), (1, (.iface 120 (.pointer (some ⟨qb, 0, none⟩))))]) (by kernel_rfl) (by kernel_rfl) rfl (by kernel_rfl)) ?_
    exact Rt.ye
  refine Rt.twoL 4 11 (by kernel_rfl) rfl rfl (by kernel_rfl) (by kernel_rfl) ?_ ?_
  · skip
    with_reducible refine wp_load1 (v := .slice pi N ci) rb 102 rfl ?_ ?_ ?_ ?_
    · kernel_rfl
    · exact Yba.isAgg58 _
    · exact a2.out
    refine ⟨S0.out, ?_⟩
    refine Rt.oneL 11 (by kernel_rfl) rfl (by kernel_rfl) ?_
    with_reducible refine Rt.wp_buildSlice (vs := #[(0, (.agg #[.int .i64 id, .iface 120 (.pointer (some ⟨qb, 0, none⟩))]))]) rfl ?_ (build58 id qb w2.drew) ?_
    · kernel_rfl
    refine ⟨S1.out, ?_⟩
    refine Rt.oneL 12 (by kernel_rfl) rfl (by kernel_rfl) ?_
    with_reducible refine wp_append (.tmp 21) (.tmp 28) 58 58 58 (v := .slice pi N ci) (y := .slice (some ⟨w2.heap.size, 0, none⟩) 1 1) rfl rfl ?_ ?_ HAP3.out ?_
    · kernel_rfl
    · kernel_rfl
    refine ⟨S3.out, ?_⟩
    refine Rt.moreL [none, none, none, none, none, none, none, none, none, none, none, none, none, some (.pointer (some ⟨rb, 0, none⟩)), some (.pointer (some ⟨rb, 102, none⟩))] 1 (by kernel_rfl) (by kernel_rfl) (by kernel_rfl) (by kernel_rfl) S3.out ?_ ?_
    · refine Rt.yn (Rt.yn (Rt.yn (Rt.yn (Rt.yn (Rt.yn (Rt.yn (Rt.yn (Rt.yn (Rt.yn (Rt.yn (Rt.yn (Rt.yn ?_))))))))))))
      refine Rt.yc (Rt.y_nil (by kernel_rfl) rfl (by kernel_rfl)) ?_
      refine Rt.yc (Rt.y_field 0 0 (by kernel_rfl) rfl (by kernel_rfl) Yba.underlying72 rfl (by kernel_rfl) rfl) ?_
      exact Rt.ye
    refine Rt.oneL 15 (by kernel_rfl) rfl (by kernel_rfl) ?_
    with_reducible refine wp_store1 (p := p3) (n := N1) (c := c3) (u := .slice pi N ci) rb 102 rfl ?_ ?_ ?_ ?_ ?_ ?_
    · kernel_rfl
    · kernel_rfl
    · exact size58 _
    · exact a3.out
    · exact z3.out
    refine ⟨S4.out, ?_⟩
    with_reducible refine Rt.done ?_ ?_ 0
    · kernel_rfl
    simp only [Rt.putL, Act.put, List.setIfInBounds_toArray, List.set_cons_succ, List.set_cons_zero]
    go_wp2
    go_end0
    exact FIN.out
  · skip
    with_reducible refine Rt.wp_buildSlice (vs := #[(0, (.agg #[.int .i64 id, .iface 120 (.pointer (some ⟨qb, 0, none⟩))]))]) rfl ?_ (build58 id qb w2.drew) ?_
    · kernel_rfl
    refine ⟨S1.out, ?_⟩
    refine Rt.oneL 4 (by kernel_rfl) rfl (by kernel_rfl) ?_
    with_reducible refine wp_load1 (v := .slice pi N ci) rb 102 rfl ?_ ?_ ?_ ?_
    · kernel_rfl
    · exact Yba.isAgg58 _
    · exact a2'.out
    refine ⟨S1.out, ?_⟩
    refine Rt.oneL 12 (by kernel_rfl) rfl (by kernel_rfl) ?_
    with_reducible refine wp_append (.tmp 21) (.tmp 28) 58 58 58 (v := .slice pi N ci) (y := .slice (some ⟨w2.heap.size, 0, none⟩) 1 1) rfl rfl ?_ ?_ HAP3.out ?_
    · kernel_rfl
    · kernel_rfl
    refine ⟨S3.out, ?_⟩
    refine Rt.moreL [none, none, none, none, none, none, none, none, none, none, none, none, none, some (.pointer (some ⟨rb, 0, none⟩)), some (.pointer (some ⟨rb, 102, none⟩))] 1 (by kernel_rfl) (by kernel_rfl) (by kernel_rfl) (by kernel_rfl) S3.out ?_ ?_
    · refine Rt.yn (Rt.yn (Rt.yn (Rt.yn (Rt.yn (Rt.yn (Rt.yn (Rt.yn (Rt.yn (Rt.yn (Rt.yn (Rt.yn (Rt.yn ?_))))))))))))
      refine Rt.yc (Rt.y_nil (by kernel_rfl) rfl (by kernel_rfl)) ?_
      refine Rt.yc (Rt.y_field 0 0 (by kernel_rfl) rfl (by kernel_rfl) Yba.underlying72 rfl (by kernel_rfl) rfl) ?_
      exact Rt.ye
    refine Rt.oneL 15 (by kernel_rfl) rfl (by kernel_rfl) ?_
    with_reducible refine wp_store1 (p := p3) (n := N1) (c := c3) (u := .slice pi N ci) rb 102 rfl ?_ ?_ ?_ ?_ ?_ ?_
    · kernel_rfl
    · kernel_rfl
    · exact size58 _
    · exact a3.out
    · exact z3.out
    refine ⟨S4.out, ?_⟩
    with_reducible refine Rt.done ?_ ?_ 0
    · kernel_rfl
    simp only [Rt.putL, Act.put, List.setIfInBounds_toArray, List.set_cons_succ, List.set_cons_zero]
    go_wp2
    go_end0
    exact FIN.out
end Go.Proofs.Ybulkcsck.Ga
