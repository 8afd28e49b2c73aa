/-
  OWN TEXT. LawS4690CGather: onVote, where the vote is passed over (more).
-/
import Derived.Test.YbulkcsckGaM
namespace Go.Proofs.Ybulkcsck.Ga
open Go.RowKit

set_option maxRecDepth 100000 in
set_option maxHeartbeats 1600000 in
theorem gate2 (rb mb bb : Nat) (fr : Value) (w : World) (h96 : w.cell? ⟨rb, 96, none⟩ = some (.pointer (some ⟨bb, 0, none⟩))) (lv : Bool) (wi vw0 : Int) (h12 : w.cell? ⟨rb, 12, none⟩ = some (.bool lv)) (h11 : w.cell? ⟨rb, 11, none⟩ = some (.int .i64 wi)) (h10 : w.cell? ⟨rb, 10, none⟩ = some (.int .i64 vw0)) (s e v ep vw : Int) (bm bid : List Int) (hm : bm.length = 32) (hbl : bid.length = 32) (hG : GateS mb bb s e v ep vw bm bid w) (hv : (!lv && decide (wi ≤ vw0)) = true) (h2 : (e != ep) = true) :
    Calls Yba.prog 14 #[.pointer (some ⟨rb, 0, none⟩), fr, .pointer (some ⟨mb, 0, none⟩)] w fun e w' => e = .returned (.tuple #[]) ∧ Below w.heap.size w w' := by
  have VOT : Hid (Calls Yba.prog 23 #[.pointer (some ⟨rb, 0, none⟩)] w.drew fun e w' => e = .returned (.bool true) ∧ Below w.drew.heap.size w.drew w') := by
    have q := voting_any rb lv wi vw0 w.drew h12 h11 h10
    rw [hv] at q
    exact q
  clear h12 h11 h10 hv
  have SG : Hid (∀ w', Below w.heap.size w w' → GateS mb bb s e v ep vw bm bid w') := fun w' h => hG.below h
  have SG0 : Hid (GateS mb bb s e v ep vw bm bid w.drew) := SG.out _ (Below.refl _ w).drew
  have HLM : Hid (bm.length = 32) := hm
  have HLB : Hid (bid.length = 32) := hbl
  clear hG hm hbl
  have H2 : Hid _ := h2
  clear h2
  go_enter Yba.func14, Yba.ntmps14
  go_upto_region 1 with fail
  clear h96
  refine Rt.regionL (GateS mb bb s e v ep vw bm bid) [some (.pointer (some ⟨bb, 0, none⟩)), some (.bool false), some (.bool false), some (.pointer (some ⟨rb, 0, none⟩))] 50
    (by kernel_rfl) (by kernel_rfl) (by kernel_rfl) (by kernel_rfl) (by kernel_rfl) SG0.out ?_ ?_
  · skip
    refine Rt.yc (Rt.y_move (by kernel_rfl) rfl (by kernel_rfl)) ?_
    refine Rt.yc (Rt.y_bin (by kernel_rfl) rfl (fun w => ptrNilS bb w)) ?_
    refine Rt.yc (Rt.y_move (by kernel_rfl) rfl (by kernel_rfl)) ?_
    refine Rt.yc (Rt.y_move (by kernel_rfl) rfl (by kernel_rfl)) ?_
    exact Rt.ye
  refine Rt.oneL 4 (by kernel_rfl) rfl (by kernel_rfl) ?_
  with_reducible refine Rt.wp_call (vs := #[.pointer (some ⟨rb, 0, none⟩)]) rfl ?_ (Yba.call23 _) ?_
  · kernel_rfl
  refine VOT.out.mono ?_
  rintro x w1 ⟨rfl, hb1⟩
  have hb1' : Below w.heap.size w w1 := (Below.refl _ w).drew.trans hb1
  refine ⟨_, rfl, (SG.out w1 hb1'), ?_⟩
  refine Rt.moreL [none, none, none, none, none, some (.bool false), some (.bool false), some (.bool false), some (.pointer (some ⟨mb, 0, none⟩)), some (.pointer (some ⟨mb, 0, none⟩)), some (.pointer (some ⟨mb, 1, none⟩)), some (.int .i64 e), some (.pointer (some ⟨bb, 0, none⟩)), some (.pointer (some ⟨bb, 0, none⟩)), some (.pointer (some ⟨bb, 0, none⟩)), some (.int .i64 ep), some (.bool true), some (.bool true), some (.bool true), some undef, some undef, some undef, some undef, some undef, some undef, some undef, some undef, some undef, some (.bool true), some (.bool true), some undef, some undef, some undef, some undef, some undef, some undef, some undef, some undef, some undef, some (.bool true), some (.bool true), some undef, some undef, some undef, some undef, some undef, some (.bool true), some (.bool true), some undef, some undef, some undef, some undef, some undef, some (.bool true)] 0 (by kernel_rfl) (by kernel_rfl) (by kernel_rfl) (by kernel_rfl) (SG.out w1 hb1') ?_ ?_
  · refine Rt.yn (Rt.yn (Rt.yn (Rt.yn (Rt.yn ?_))))
    refine Rt.yc (Rt.y_not (t := true) (by kernel_rfl) rfl (by kernel_rfl)) ?_
    refine Rt.yc (Rt.y_pick false (by kernel_rfl) rfl (by kernel_rfl) (by kernel_rfl)) ?_
    refine Rt.yc (Rt.y_move (by kernel_rfl) rfl (by kernel_rfl)) ?_
    refine Rt.yc (Rt.y_move (by kernel_rfl) rfl (by kernel_rfl)) ?_
    refine Rt.yc (Rt.y_nil (by kernel_rfl) rfl (by kernel_rfl)) ?_
    refine Rt.yc (Rt.y_field 0 0 (by kernel_rfl) rfl (by kernel_rfl) Yba.underlying112 rfl (by kernel_rfl) rfl) ?_
    refine Rt.yc (Rt.y_load mb 1 (by kernel_rfl) rfl (by kernel_rfl) Yba.isAgg3 (fun w h => h.1.2.1)) ?_
    refine Rt.yc (Rt.y_move (by kernel_rfl) rfl (by kernel_rfl)) ?_
    refine Rt.yc (Rt.y_nil (by kernel_rfl) rfl (by kernel_rfl)) ?_
    refine Rt.yc (Rt.y_field 0 0 (by kernel_rfl) rfl (by kernel_rfl) Yba.underlying44 rfl (by kernel_rfl) rfl) ?_
    refine Rt.yc (Rt.y_load bb 0 (by kernel_rfl) rfl (by kernel_rfl) Yba.isAgg3 (fun w h => h.2.1)) ?_
    refine Rt.yc (Rt.y_bin (by kernel_rfl) rfl (fun w => neqI e ep _ H2.out w)) ?_
    refine Rt.yc (Rt.y_pick false (by kernel_rfl) rfl (by kernel_rfl) (by kernel_rfl)) ?_
    refine Rt.yc (Rt.y_move (by kernel_rfl) rfl (by kernel_rfl)) ?_
    refine Rt.yc (Rt.y_off (by kernel_rfl)) ?_
    refine Rt.yc (Rt.y_off (by kernel_rfl)) ?_
    refine Rt.yc (Rt.y_off (by kernel_rfl)) ?_
    refine Rt.yc (Rt.y_off (by kernel_rfl)) ?_
    refine Rt.yc (Rt.y_off (by kernel_rfl)) ?_
    refine Rt.yc (Rt.y_off (by kernel_rfl)) ?_
    refine Rt.yc (Rt.y_off (by kernel_rfl)) ?_
    refine Rt.yc (Rt.y_off (by kernel_rfl)) ?_
    refine Rt.yc (Rt.y_off (by kernel_rfl)) ?_
    refine Rt.yc (Rt.y_pick true (by kernel_rfl) rfl (by kernel_rfl) (by kernel_rfl)) ?_
    refine Rt.yc (Rt.y_move (by kernel_rfl) rfl (by kernel_rfl)) ?_
    refine Rt.yc (Rt.y_off (by kernel_rfl)) ?_
    refine Rt.yc (Rt.y_off (by kernel_rfl)) ?_
    refine Rt.yc (Rt.y_off (by kernel_rfl)) ?_
    refine Rt.yc (Rt.y_off (by kernel_rfl)) ?_
    refine Rt.yc (Rt.y_off (by kernel_rfl)) ?_
    refine Rt.yc (Rt.y_off (by kernel_rfl)) ?_
    refine Rt.yc (Rt.y_off (by kernel_rfl)) ?_
    refine Rt.yc (Rt.y_off (by kernel_rfl)) ?_
    refine Rt.yc (Rt.y_off (by kernel_rfl)) ?_
    refine Rt.yc (Rt.y_pick true (by kernel_rfl) rfl (by kernel_rfl) (by kernel_rfl)) ?_
    refine Rt.yc (Rt.y_move (by kernel_rfl) rfl (by kernel_rfl)) ?_
    refine Rt.yc (Rt.y_off (by kernel_rfl)) ?_
    refine Rt.yc (Rt.y_off (by kernel_rfl)) ?_
    refine Rt.yc (Rt.y_off (by kernel_rfl)) ?_
    refine Rt.yc (Rt.y_off (by kernel_rfl)) ?_
    refine Rt.yc (Rt.y_off (by kernel_rfl)) ?_
    refine Rt.yc (Rt.y_pick true (by kernel_rfl) rfl (by kernel_rfl) (by kernel_rfl)) ?_
    refine Rt.yc (Rt.y_move (by kernel_rfl) rfl (by kernel_rfl)) ?_
    refine Rt.yc (Rt.y_off (by kernel_rfl)) ?_
    refine Rt.yc (Rt.y_off (by kernel_rfl)) ?_
    refine Rt.yc (Rt.y_off (by kernel_rfl)) ?_
    refine Rt.yc (Rt.y_off (by kernel_rfl)) ?_
    refine Rt.yc (Rt.y_off (by kernel_rfl)) ?_
    refine Rt.yc (Rt.y_pick true (by kernel_rfl) rfl (by kernel_rfl) (by kernel_rfl)) ?_
    exact Rt.ye
  with_reducible refine Rt.done ?_ ?_ 0
  · kernel_rfl
  simp only [Rt.putL, Act.put, List.setIfInBounds_toArray, List.set_cons_succ, List.set_cons_zero]
  go_wp2
  (try simp only [Exit.inBlock, Exit.then])
  refine bodyPost_ret (results_none rfl _ _ _) rfl ?_
  exact ⟨rfl, hb1'⟩

set_option maxRecDepth 100000 in
set_option maxHeartbeats 1600000 in
theorem gate3 (rb mb bb : Nat) (fr : Value) (w : World) (h96 : w.cell? ⟨rb, 96, none⟩ = some (.pointer (some ⟨bb, 0, none⟩))) (lv : Bool) (wi vw0 : Int) (h12 : w.cell? ⟨rb, 12, none⟩ = some (.bool lv)) (h11 : w.cell? ⟨rb, 11, none⟩ = some (.int .i64 wi)) (h10 : w.cell? ⟨rb, 10, none⟩ = some (.int .i64 vw0)) (s e v ep vw : Int) (bm bid : List Int) (hm : bm.length = 32) (hbl : bid.length = 32) (hG : GateS mb bb s e v ep vw bm bid w) (hv : (!lv && decide (wi ≤ vw0)) = true) (h2 : (e != ep) = false) (h3 : (v != vw) = true) :
    Calls Yba.prog 14 #[.pointer (some ⟨rb, 0, none⟩), fr, .pointer (some ⟨mb, 0, none⟩)] w fun e w' => e = .returned (.tuple #[]) ∧ Below w.heap.size w w' := by
  have VOT : Hid (Calls Yba.prog 23 #[.pointer (some ⟨rb, 0, none⟩)] w.drew fun e w' => e = .returned (.bool true) ∧ Below w.drew.heap.size w.drew w') := by
    have q := voting_any rb lv wi vw0 w.drew h12 h11 h10
    rw [hv] at q
    exact q
  clear h12 h11 h10 hv
  have SG : Hid (∀ w', Below w.heap.size w w' → GateS mb bb s e v ep vw bm bid w') := fun w' h => hG.below h
  have SG0 : Hid (GateS mb bb s e v ep vw bm bid w.drew) := SG.out _ (Below.refl _ w).drew
  have HLM : Hid (bm.length = 32) := hm
  have HLB : Hid (bid.length = 32) := hbl
  clear hG hm hbl
  have H2 : Hid _ := h2
  clear h2
  have H3 : Hid _ := h3
  clear h3
  go_enter Yba.func14, Yba.ntmps14
  go_upto_region 1 with fail
  clear h96
  refine Rt.regionL (GateS mb bb s e v ep vw bm bid) [some (.pointer (some ⟨bb, 0, none⟩)), some (.bool false), some (.bool false), some (.pointer (some ⟨rb, 0, none⟩))] 50
    (by kernel_rfl) (by kernel_rfl) (by kernel_rfl) (by kernel_rfl) (by kernel_rfl) SG0.out ?_ ?_
  · skip
    refine Rt.yc (Rt.y_move (by kernel_rfl) rfl (by kernel_rfl)) ?_
    refine Rt.yc (Rt.y_bin (by kernel_rfl) rfl (fun w => ptrNilS bb w)) ?_
    refine Rt.yc (Rt.y_move (by kernel_rfl) rfl (by kernel_rfl)) ?_
    refine Rt.yc (Rt.y_move (by kernel_rfl) rfl (by kernel_rfl)) ?_
    exact Rt.ye
  refine Rt.oneL 4 (by kernel_rfl) rfl (by kernel_rfl) ?_
  with_reducible refine Rt.wp_call (vs := #[.pointer (some ⟨rb, 0, none⟩)]) rfl ?_ (Yba.call23 _) ?_
  · kernel_rfl
  refine VOT.out.mono ?_
  rintro x w1 ⟨rfl, hb1⟩
  have hb1' : Below w.heap.size w w1 := (Below.refl _ w).drew.trans hb1
  refine ⟨_, rfl, (SG.out w1 hb1'), ?_⟩
  refine Rt.moreL [none, none, none, none, none, some (.bool false), some (.bool false), some (.bool false), some (.pointer (some ⟨mb, 0, none⟩)), some (.pointer (some ⟨mb, 0, none⟩)), some (.pointer (some ⟨mb, 1, none⟩)), some (.int .i64 e), some (.pointer (some ⟨bb, 0, none⟩)), some (.pointer (some ⟨bb, 0, none⟩)), some (.pointer (some ⟨bb, 0, none⟩)), some (.int .i64 ep), some (.bool false), some (.bool false), some (.bool false), some (.pointer (some ⟨mb, 0, none⟩)), some (.pointer (some ⟨mb, 0, none⟩)), some (.pointer (some ⟨mb, 2, none⟩)), some (.int .i64 v), some (.pointer (some ⟨bb, 0, none⟩)), some (.pointer (some ⟨bb, 0, none⟩)), some (.pointer (some ⟨bb, 1, none⟩)), some (.int .i64 vw), some (.bool true), some (.bool true), some (.bool true), some undef, some undef, some undef, some undef, some undef, some undef, some undef, some undef, some undef, some (.bool true), some (.bool true), some undef, some undef, some undef, some undef, some undef, some (.bool true), some (.bool true), some undef, some undef, some undef, some undef, some undef, some (.bool true)] 0 (by kernel_rfl) (by kernel_rfl) (by kernel_rfl) (by kernel_rfl) (SG.out w1 hb1') ?_ ?_
  · refine Rt.yn (Rt.yn (Rt.yn (Rt.yn (Rt.yn ?_))))
    refine Rt.yc (Rt.y_not (t := true) (by kernel_rfl) rfl (by kernel_rfl)) ?_
    refine Rt.yc (Rt.y_pick false (by kernel_rfl) rfl (by kernel_rfl) (by kernel_rfl)) ?_
    refine Rt.yc (Rt.y_move (by kernel_rfl) rfl (by kernel_rfl)) ?_
    refine Rt.yc (Rt.y_move (by kernel_rfl) rfl (by kernel_rfl)) ?_
    refine Rt.yc (Rt.y_nil (by kernel_rfl) rfl (by kernel_rfl)) ?_
    refine Rt.yc (Rt.y_field 0 0 (by kernel_rfl) rfl (by kernel_rfl) Yba.underlying112 rfl (by kernel_rfl) rfl) ?_
    refine Rt.yc (Rt.y_load mb 1 (by kernel_rfl) rfl (by kernel_rfl) Yba.isAgg3 (fun w h => h.1.2.1)) ?_
    refine Rt.yc (Rt.y_move (by kernel_rfl) rfl (by kernel_rfl)) ?_
    refine Rt.yc (Rt.y_nil (by kernel_rfl) rfl (by kernel_rfl)) ?_
    refine Rt.yc (Rt.y_field 0 0 (by kernel_rfl) rfl (by kernel_rfl) Yba.underlying44 rfl (by kernel_rfl) rfl) ?_
    refine Rt.yc (Rt.y_load bb 0 (by kernel_rfl) rfl (by kernel_rfl) Yba.isAgg3 (fun w h => h.2.1)) ?_
    refine Rt.yc (Rt.y_bin (by kernel_rfl) rfl (fun w => neqI e ep _ H2.out w)) ?_
    refine Rt.yc (Rt.y_pick false (by kernel_rfl) rfl (by kernel_rfl) (by kernel_rfl)) ?_
    refine Rt.yc (Rt.y_move (by kernel_rfl) rfl (by kernel_rfl)) ?_
    refine Rt.yc (Rt.y_move (by kernel_rfl) rfl (by kernel_rfl)) ?_
    refine Rt.yc (Rt.y_nil (by kernel_rfl) rfl (by kernel_rfl)) ?_
    refine Rt.yc (Rt.y_field 0 0 (by kernel_rfl) rfl (by kernel_rfl) Yba.underlying112 rfl (by kernel_rfl) rfl) ?_
    refine Rt.yc (Rt.y_load mb 2 (by kernel_rfl) rfl (by kernel_rfl) Yba.isAgg3 (fun w h => h.1.2.2.1)) ?_
    refine Rt.yc (Rt.y_move (by kernel_rfl) rfl (by kernel_rfl)) ?_
    refine Rt.yc (Rt.y_nil (by kernel_rfl) rfl (by kernel_rfl)) ?_
    refine Rt.yc (Rt.y_field 0 0 (by kernel_rfl) rfl (by kernel_rfl) Yba.underlying44 rfl (by kernel_rfl) rfl) ?_
    refine Rt.yc (Rt.y_load bb 1 (by kernel_rfl) rfl (by kernel_rfl) Yba.isAgg3 (fun w h => h.2.2.1)) ?_
    refine Rt.yc (Rt.y_bin (by kernel_rfl) rfl (fun w => neqI v vw _ H3.out w)) ?_
    refine Rt.yc (Rt.y_pick false (by kernel_rfl) rfl (by kernel_rfl) (by kernel_rfl)) ?_
    refine Rt.yc (Rt.y_move (by kernel_rfl) rfl (by kernel_rfl)) ?_
    refine Rt.yc (Rt.y_off (by kernel_rfl)) ?_
    refine Rt.yc (Rt.y_off (by kernel_rfl)) ?_
    refine Rt.yc (Rt.y_off (by kernel_rfl)) ?_
    refine Rt.yc (Rt.y_off (by kernel_rfl)) ?_
    refine Rt.yc (Rt.y_off (by kernel_rfl)) ?_
    refine Rt.yc (Rt.y_off (by kernel_rfl)) ?_
    refine Rt.yc (Rt.y_off (by kernel_rfl)) ?_
    refine Rt.yc (Rt.y_off (by kernel_rfl)) ?_
    refine Rt.yc (Rt.y_off (by kernel_rfl)) ?_
    refine Rt.yc (Rt.y_pick true (by kernel_rfl) rfl (by kernel_rfl) (by kernel_rfl)) ?_
    refine Rt.yc (Rt.y_move (by kernel_rfl) rfl (by kernel_rfl)) ?_
    refine Rt.yc (Rt.y_off (by kernel_rfl)) ?_
    refine Rt.yc (Rt.y_off (by kernel_rfl)) ?_
    refine Rt.yc (Rt.y_off (by kernel_rfl)) ?_
    refine Rt.yc (Rt.y_off (by kernel_rfl)) ?_
    refine Rt.yc (Rt.y_off (by kernel_rfl)) ?_
    refine Rt.yc (Rt.y_pick true (by kernel_rfl) rfl (by kernel_rfl) (by kernel_rfl)) ?_
    refine Rt.yc (Rt.y_move (by kernel_rfl) rfl (by kernel_rfl)) ?_
    refine Rt.yc (Rt.y_off (by kernel_rfl)) ?_
    refine Rt.yc (Rt.y_off (by kernel_rfl)) ?_
    refine Rt.yc (Rt.y_off (by kernel_rfl)) ?_
    refine Rt.yc (Rt.y_off (by kernel_rfl)) ?_
    refine Rt.yc (Rt.y_off (by kernel_rfl)) ?_
    refine Rt.yc (Rt.y_pick true (by kernel_rfl) rfl (by kernel_rfl) (by kernel_rfl)) ?_
    exact Rt.ye
  with_reducible refine Rt.done ?_ ?_ 0
  · kernel_rfl
  simp only [Rt.putL, Act.put, List.setIfInBounds_toArray, List.set_cons_succ, List.set_cons_zero]
  go_wp2
  (try simp only [Exit.inBlock, Exit.then])
  refine bodyPost_ret (results_none rfl _ _ _) rfl ?_
  exact ⟨rfl, hb1'⟩
end Go.Proofs.Ybulkcsck.Ga
