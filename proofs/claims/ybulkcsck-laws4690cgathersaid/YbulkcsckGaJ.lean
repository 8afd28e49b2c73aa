/-
  OWN TEXT. LawS4690CGather: remember, broadcast.
-/
import Derived.Test.YbulkcsckGaI
namespace Go.Proofs.Ybulkcsck.Ga
open Go.RowKit

theorem make64 (w : World) : (Instr.makeMap 64 (some (.int .i64 64))).run Yba.prog w = .ok (.map (some w.heap.size)) (w.alloc (.map #[] 0)) := by kernel_rfl

set_option maxRecDepth 100000 in
set_option maxHeartbeats 800000 in
/-- what remember does where there is no map yet -/
theorem remember_none (rb g c : Nat) (l : List Int) (p : Option Addr) (n q : Nat) (w0 : World) (h00 : w0.cell? ⟨rb, 108, none⟩ = some (.map none)) (hf0 : w0.frozen? ⟨rb, 108, none⟩ = false)
    (hl : l.length = 71) (hg0 : ∀ j u, (u8s l)[j]? = some u → w0.cell? ⟨g, j, none⟩ = some u) (hgb : ¬ g = rb) :
    Calls Yba.prog 29 #[.pointer (some ⟨rb, 108, none⟩), .slice (some ⟨g, 0, none⟩) 71 c, .slice p n q] w0 fun e w' => e = .returned (.tuple #[]) ∧ ∃ k, w' = { ((w0.alloc (.map #[] 0)).setCell ⟨rb, 108, none⟩ (.map (some w0.heap.size))).drewN k with heap := ((w0.alloc (.map #[] 0)).setCell ⟨rb, 108, none⟩ (.map (some w0.heap.size))).heap.setIfInBounds w0.heap.size (.map #[{ key := .string (strOfNums l), val := .slice p n q, born := 0 }] 1) } := by
  have hlt : rb < w0.heap.size := World.block_lt_of_cell? w0 _ h00
  have km := make64 w0
  have a1 : ∀ ob, (w0.alloc ob).cell? ⟨rb, 108, none⟩ = some (.map none) := fun ob => (((Below.refl _ w0).alloc (Nat.le_refl _) ob).cell (p := ⟨rb, 108, none⟩) hlt).trans h00
  have f1 : ∀ ob, (w0.alloc ob).frozen? ⟨rb, 108, none⟩ = false := fun ob => (((Below.refl _ w0).alloc (Nat.le_refl _) ob).frozen (p := ⟨rb, 108, none⟩) hlt).trans hf0
  obtain ⟨w, hw⟩ : ∃ w, w = (w0.alloc (.map #[] 0)).setCell ⟨rb, 108, none⟩ (.map (some w0.heap.size)) := ⟨_, rfl⟩
  obtain ⟨mb, hmb⟩ : ∃ mb, mb = w0.heap.size := ⟨_, rfl⟩
  rw [← hmb] at hw km
  have h0 : w.cell? ⟨rb, 108, none⟩ = some (.map (some mb)) := by rw [hw]; exact World.cell?_setCell_same _ _ _ (a1 _)
  have hb : w.heap[mb]? = some (.map #[] 0) := by
    rw [hw, Below.heap_setCell _ _ _ _ (by simp; omega), hmb]
    exact heap_alloc_new w0 _
  have hg : ∀ j u, (u8s l)[j]? = some u → w.cell? ⟨g, j, none⟩ = some u := fun j u hj => by
    have q1 := hg0 j u hj
    have lt2 := World.block_lt_of_cell? w0 _ q1
    rw [hw, World.cell?_of_block (w := w0.alloc (.map #[] 0)) (a := ⟨g, j, none⟩) (Below.heap_setCell _ _ _ _ (by simpa using hgb)), ((Below.refl _ w0).alloc (Nat.le_refl _) _).cell (p := ⟨g, j, none⟩) lt2]
    exact q1
  have kc : ∀ k, (convert 37 9 (.slice (some ⟨g, 0, none⟩) 71 c)).run Yba.prog (w.drewN k) = .ok (.string (strOfNums l)) (w.drewN k) := fun k => conv9 hl (fun j u hj => hg j u hj)
  have kl : ∀ k, (Instr.lookup 64 (.map (some mb)) (.string (strOfNums l)) true).run Yba.prog (w.drewN k) = .ok (.tuple #[.slice none 0 0, .bool false]) (w.drewN k) := fun k => map_lookup (w := w.drewN k) (ks := []) hb rfl (by simp)
  have ku : Hid (∀ k, (Instr.mapUpdate 64 (.map (some mb)) (.string (strOfNums l)) (.slice p n q)).run Yba.prog (w.drewN k) = .ok () { (w.drewN k) with heap := w.heap.setIfInBounds mb (.map #[{ key := .string (strOfNums l), val := .slice p n q, born := 0 }] 1) }) := fun k => map_update (w := w.drewN k) (ks := []) hb rfl (by simp)
  have kn : ∀ k, (Builtin.len_ #[64] 3 #[.map (some mb)]).run Yba.prog (w.drewN k) = .ok (.int .i64 0) (w.drewN k) := fun k => run_len_map (w.drewN k) 64 3 mb #[] 0 Yba.underlying64 hb
  have HCV : Hid (∀ w', (∀ j u, (u8s l)[j]? = some u → w'.cell? ⟨g, j, none⟩ = some u) → (convert 37 9 (.slice (some ⟨g, 0, none⟩) 71 c)).run Yba.prog w' = .ok (.string (strOfNums l)) w') := fun w' h => conv9 hl h
  have HG : Hid (∀ j u, (u8s l)[j]? = some u → w.cell? ⟨g, j, none⟩ = some u) := hg
  have HB : Hid (w.heap[mb]? = some (.map #[] 0)) := hb
  rw [← hmb, ← hw]
  have E1 : Hid (w = (w0.alloc (.map #[] 0)).setCell ⟨rb, 108, none⟩ (.map (some mb))) := hw
  generalize strOfNums l = S at *
  clear hg hl hg0 hgb hw hlt
  have km' : (Instr.makeMap 64 (some (.int .i64 64))).run Yba.prog w0 = .ok (.map (some mb)) (w0.alloc (.map #[] 0)) := km
  clear km hmb
  go_enter Yba.func29, Yba.ntmps29
  go_upto_region 2 with fail
  rw [← E1.out]
  clear km' a1 f1 h00 hf0 E1
  go_quiet (fail)
  go_upto_region 5 with fail
  have ku' : Hid ((Instr.mapUpdate 64 (.map (some mb)) (.string S) (.slice p n q)).run Yba.prog (w.drewN nq).drew = .ok () { (w.drewN (nq + 1)) with heap := w.heap.setIfInBounds mb (.map #[{ key := .string S, val := .slice p n q, born := 0 }] 1) }) := ku.out (nq + 1)
  have S1 : Hid ((w.drewN nq).drew.cell? ⟨rb, 108, none⟩ = some (.map (some mb)) ∧ ∀ j u, (u8s l)[j]? = some u → (w.drewN nq).drew.cell? ⟨g, j, none⟩ = some u) := ⟨h0, HG.out⟩
  have S2 : Hid (World.cell? { (w.drewN (nq + 1)) with heap := w.heap.setIfInBounds mb (.map #[{ key := .string S, val := .slice p n q, born := 0 }] 1) } ⟨rb, 108, none⟩ = some (.map (some mb)) ∧ ∀ j u, (u8s l)[j]? = some u → World.cell? { (w.drewN (nq + 1)) with heap := w.heap.setIfInBounds mb (.map #[{ key := .string S, val := .slice p n q, born := 0 }] 1) } ⟨g, j, none⟩ = some u) :=
    ⟨cell_setmap HB.out h0 _, fun j u hj => cell_setmap HB.out (HG.out j u hj) _⟩
  clear kc kl ku kn
  refine Rt.regionL (fun w' => w'.cell? ⟨rb, 108, none⟩ = some (.map (some mb)) ∧ ∀ j u, (u8s l)[j]? = some u → w'.cell? ⟨g, j, none⟩ = some u) [some (.pointer (some ⟨rb, 108, none⟩)), some (.pointer (some ⟨rb, 108, none⟩)), some (.map (some mb)), some (.slice (some ⟨g, 0, none⟩) 71 c), some (.string S), some (.slice p n q)] 1
    (by kernel_rfl) (by kernel_rfl) (by kernel_rfl) (by kernel_rfl) (by kernel_rfl) S1.out ?_ ?_
  · refine Rt.yc (Rt.y_move (by kernel_rfl) rfl (by kernel_rfl)) ?_
    refine Rt.yc (Rt.y_nil (by kernel_rfl) rfl (by kernel_rfl)) ?_
    refine Rt.yc (Rt.y_load rb 108 (by kernel_rfl) rfl (by kernel_rfl) Yba.isAgg64 (fun w h => h.1)) ?_
    refine Rt.yc (Rt.y_move (by kernel_rfl) rfl (by kernel_rfl)) ?_
    refine Rt.yc (y_conv (.slice (some ⟨g, 0, none⟩) 71 c) (by kernel_rfl) rfl (by kernel_rfl) (fun w h => HCV.out w h.2)) ?_
    refine Rt.yc (Rt.y_move (by kernel_rfl) rfl (by kernel_rfl)) ?_
    exact Rt.ye
  refine Rt.oneL 6 (by kernel_rfl) rfl (by kernel_rfl) ?_
  with_reducible refine wp_mapUpdate (m := .map (some mb)) (k := .string S) (v := .slice p n q) rfl ?_ ?_ ?_ ku'.out ?_
  · kernel_rfl
  · kernel_rfl
  · kernel_rfl
  refine ⟨S2.out, ?_⟩
  with_reducible refine Rt.done ?_ ?_ 0
  · kernel_rfl
  simp only [Rt.putL, Act.put, List.setIfInBounds_toArray, List.set_cons_succ, List.set_cons_zero]
  go_wp2
  go_end0
  exact ⟨rfl, nq + 1, rfl⟩
end Go.Proofs.Ybulkcsck.Ga
