/-
  OWN TEXT. LawS4690AReport: (*Replica).report.
-/
import Derived.Test.YbulkcsckRepG
namespace Go.Proofs.Ybulkcsck
open Go.RowKit

section
variable {P : Program} {ops : Array Oper} {rest : List Oper} {x y : Operand} {t ty' : TypeId} {pos : String} {after : Array Edge} {a : Act} {w : World} {Q : Exit → Act → World → Prop}
theorem st_new (cs : List Value) (z : Array Value) (hx : a.eval x = .pointer (some ⟨w.heap.size, 0, none⟩)) (hy : a.eval y = .agg cs.toArray)
    (hi : (P.info? t).map (·.size) = some cs.length) (hz : z.size = cs.length) (h1 : ∀ v ∈ cs, v.oneCell' = true)
    (h : wpList P ops Q rest a (w.alloc (.cells cs.toArray t))) :
    wpList P ops Q ({ dst := none, op := .store t x y, type := ty', pos := pos, after := after, guard := none } :: rest) a (w.alloc (.cells z t)) :=
  wpList_plain rfl fun _ hK => by
    have hr := run_storeAt_new (P := P) w t z cs.toArray (by simpa using hi) (by simpa using hz) (all_oneCell_toArray h1)
    unfold Oper.wp execOp
    simp only [hx, hy, Sem.run_bind, hr, Result.andThen_ok, Sem.run_pure]
    exact hK _ _ h
theorem st_mid (cs : List Value) (b o : Nat) (hx : a.eval x = .pointer (some ⟨b, o, none⟩)) (hy : a.eval y = .agg cs.toArray)
    (ht : w.there b o cs.length) (hi : (P.info? t).map (·.size) = some cs.length) (h1 : ∀ v ∈ cs, v.oneCell' = true)
    (h : wpList P ops Q rest a (w.setCells b o cs)) :
    wpList P ops Q ({ dst := none, op := .store t x y, type := ty', pos := pos, after := after, guard := none } :: rest) a w :=
  wpList_plain rfl fun _ hK => Rt.wp_storem b o rfl hx hy ht hi h1 (hK _ _ h)
end

/-- what 'report' leaves where there is news -/
def News (w : World) (rb : Nat) (s : St) (e : Ending) (w' : World) : Prop :=
  ∃ (sb : Nat) (W : World), e = .returned (.pointer (some ⟨sb, 0, none⟩)) ∧ w.heap.size ≤ sb ∧ sb < W.heap.size ∧ Below w.heap.size w W ∧ W.rangeAt sb 0 s.L ∧ w' = W.setCells rb 115 s.L

set_option maxRecDepth 100000 in
set_option maxHeartbeats 1000000 in
theorem report_any (rb tb : Nat) (s r : St) (w : World) (hs : s.Ok) (hr : r.Ok) (h : RepAt rb tb s w) (hrep : w.rangeAt rb 115 r.L) (hth : w.there rb 115 114) (h1 : rb < w.heap.size) (h2 : tb < w.heap.size) :
    Calls Yba.prog 8 #[.pointer (some ⟨rb, 0, none⟩)] w fun e w' => (sameB s r = true → e = .returned (.pointer none) ∧ Below w.heap.size w w') ∧ (sameB s r = false → News w rb s e w') := by
  obtain ⟨z34, hzs, hz⟩ := zero34
  have hzs' : Hid (z34.size = s.L.length) := by unfold Hid; rw [hzs, s.len hs]
  have HS : Hid (RepAt rb tb s w) := h
  have HR : Hid (w.rangeAt rb 115 r.L) := hrep
  have HT : Hid (w.there rb 115 114) := hth
  clear h hrep hth hzs
  go_enter Yba.func8, Yba.ntmps8
  go_wp2_with fail
  refine (state_any rb tb s w hs HS.out h1 h2).mono ?_
  rintro e w1 ⟨rfl, hw1⟩
  have hb1 : Hid (Below w.heap.size w w1) := by subst hw1; exact ((Below.refl _ _).alloc (Nat.le_refl _) _).drew
  clear hw1
  go_wp2_with ((with_reducible refine st_new s.L z34 ?_ ?_ ?_ ?_ ?_ ?_); rfl; rfl; exact sz34 hs; exact hzs'.out; exact s.one)
  have hb2 : Hid (Below w.heap.size w (w1.alloc (.cells s.L.toArray 34))) := hb1.out.alloc hb1.out.size _
  have hsz : w.heap.size ≤ w1.heap.size := hb1.out.size
  have r1 : Hid ((w1.alloc (.cells s.L.toArray 34)).rangeAt w1.heap.size 0 s.L) := rangeAt_new w1 s.L 34
  have r2 : Hid ((w1.alloc (.cells s.L.toArray 34)).rangeAt rb 115 r.L) := rangeAt_below hb2.out h1 HR.out
  refine Rt.regionL (fun w' => w'.rangeAt w1.heap.size 0 s.L ∧ w'.rangeAt rb 115 r.L)
    [some (.agg s.L.toArray), some (.pointer (some ⟨rb, 0, none⟩)), some (.pointer (some ⟨rb, 0, none⟩)), some (.pointer (some ⟨rb, 115, none⟩)), some (.agg r.L.toArray), none] 1
    (by kernel_rfl) (by kernel_rfl) (by kernel_rfl) (by kernel_rfl) (by kernel_rfl) ⟨r1.out, r2.out⟩ ?_ ?_
  · refine Rt.yc ?_ ?_
    · exact Rt.y_loadm w1.heap.size 0 (Rt.wn rfl) rfl (by kernel_rfl) (fun w h => h.1) Yba.underlying34 rfl (sz34 hs)
    refine Rt.yc ?_ ?_
    · exact Rt.y_move (Rt.wn rfl) rfl (by kernel_rfl)
    refine Rt.yc ?_ ?_
    · exact Rt.y_nil (Rt.wn rfl) rfl (by kernel_rfl)
    refine Rt.yc ?_ ?_
    · exact Rt.y_field 113 0 (Rt.wn rfl) rfl (by kernel_rfl) Yba.underlying72 rfl (by kernel_rfl) rfl
    refine Rt.yc ?_ ?_
    · exact Rt.y_loadm rb 115 (Rt.wn rfl) rfl (by kernel_rfl) (fun w h => h.2) Yba.underlying34 rfl (sz34 hr)
    exact Rt.yn Rt.ye
  refine Rt.oneL 5 (by kernel_rfl) rfl (Rt.wn rfl) ?_
  with_reducible refine Rt.wp_call (vs := #[.agg s.L.toArray, .agg r.L.toArray]) rfl ?_ (Yba.call18 _) ?_
  · kernel_rfl
  refine (same_any s r _ hs hr).mono ?_
  rintro e w2 ⟨rfl, hb3⟩
  have hb4 : Hid (Below w.heap.size w w2) := hb2.out.drew.trans (hb3.mono (by simp; omega))
  have hs2 : w1.heap.size + 1 ≤ w2.heap.size := by have := hb3.size; simpa using this
  have r3 : Hid (w2.rangeAt w1.heap.size 0 s.L) := rangeAt_below hb3 (by simp) r1.out
  have r4 : Hid (w2.rangeAt rb 115 r.L) := rangeAt_below hb4.out h1 HR.out
  refine ⟨_, rfl, ⟨r3.out, r4.out⟩, ?_⟩
  clear hb3 r1 r2 hb2 hb1
  with_reducible refine Rt.done ?_ ?_ 0
  · kernel_rfl
  simp only [Rt.putL, Act.put, List.setIfInBounds_toArray, List.set_cons_succ, List.set_cons_zero]
  by_cases hB : sameB s r = true
  · rw [hB]
    go_wp2
    go_ret
    exact ⟨fun _ => ⟨rfl, hb4.out⟩, fun h => absurd (hB.symm.trans h) (by simp)⟩
  · have hB : sameB s r = false := by simpa using hB
    have ht2 : Hid (w2.there rb 115 s.L.length) := by
      unfold Hid
      rw [s.len hs]
      intro j hj
      have := HT.out j hj
      rw [hb4.out.cell (p := ⟨rb, 115 + j, none⟩) h1, hb4.out.frozen (p := ⟨rb, 115 + j, none⟩) h1]
      exact this
    rw [hB]
    go_wp2_with (first
      | ((with_reducible refine ld34 s hs w1.heap.size 0 ?_ ?_ ?_ ?_); rfl; rfl; exact r3.out)
      | ((with_reducible refine st_mid s.L rb 115 ?_ ?_ ?_ ?_ ?_ ?_); rfl; rfl; exact ht2.out; exact sz34 hs; exact s.one))
    go_ret
    exact ⟨fun h => absurd (hB.symm.trans h) (by simp), fun _ => ⟨w1.heap.size, w2, rfl, hsz, hs2, hb4.out, r3.out, rfl⟩⟩
end Go.Proofs.Ybulkcsck
