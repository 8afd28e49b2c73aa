/-
  OWN TEXT. LawS4690BCounts: the walk.
-/
import Derived.Test.YbulkcsckObA
import Derived.Laws.CopyOwn
import Derived.Laws.OwnMore
import Derived.BigQuiet
import Derived.Deep.MidRow
import Derived.Laws.Cover3
namespace Go.Proofs.Ybulkcsck.Ob
open Go.RowKit Go.MuLone Go.Conc

theorem info37 : ∃ i, Yba.prog.info? 37 = some i ∧ i.zero = some (.slice none 0 0) ∧ i.size = 1 ∧ i.bytes = 24 := by
  have h : (Yba.prog.info? 37).map (fun i => (i.size, i.bytes)) = some (1, 24) := by kernel_rfl
  have h2 : (Yba.prog.info? 37).bind (·.zero) = some (.slice none 0 0) := by kernel_rfl
  obtain ⟨i, hi, hb⟩ := Option.map_eq_some_iff.1 h
  rw [hi] at h2
  simp only [Prod.mk.injEq] at hb
  exact ⟨i, hi, h2, hb.1, hb.2⟩

theorem make76 (w : World) (l : Nat) (hl : l ≤ 4096) : ∃ Z : List Value, Z.length = l ∧
    (Instr.makeSlice 76 (.int .i64 (l : Int)) (.int .i64 (l : Int))).run Yba.prog w = .ok (.slice (some ⟨w.heap.size, 0, none⟩) l l) (w.alloc (.cells Z.toArray 37)) := by
  obtain ⟨i, hi, hz, hs, hb⟩ := info37
  have h := run_make (P := Yba.prog) w 76 37 i _ Yba.underlying76 hi hz .i64 .i64 l l (by omega) (by omega) (by rw [hb]; omega) (by omega)
  refine ⟨(madeCells (Value.slice none 0 0).cells ((l : Int).toNat * i.size)).toList, ?_, ?_⟩
  · rw [Array.length_toList, size_madeCells, hs]; simp
  · rw [h]; simp

/-- frames copied into a row of the call's own. -/
theorem copy76 (ty : TypeId) (w0 w : World) (B g : Nat) (a : Addr) (l k : Nat) (Z vs : List Value) (hg : w.heap[g]? = some (.cells Z.toArray 37 (0, 0))) (hZ : Z.length = l) (hv : vs.length = l)
    (hsrc : ∀ j v, vs[j]? = some v → w.cell? (a.add j) = some v) (h1 : ∀ v ∈ vs, v.oneCell' = true) (hb : Below B w0 w) (hB : B ≤ g) :
    ∃ w', (Builtin.copy_ #[76, 76] ty #[.slice (some ⟨g, 0, none⟩) l l, .slice (some a) l k]).run Yba.prog w = .ok (goInt l) w' ∧ w'.heap[g]? = some (.cells vs.toArray 37 (0, 0)) ∧ Below B w0 w' := by
  have h := run_copy_row (P := Yba.prog) w 76 76 ty 37 g 0 l l a l k Z.toArray 37 vs Yba.underlying76 (by kernel_rfl) hg (by simp [hv]) hsrc (by simp; omega) h1
  rw [show goInt (vs.length : Int) = goInt (l : Int) by rw [hv]] at h
  refine ⟨_, h, ?_, below_setRow hb hB _⟩
  have e : (Z.toArray.toList.take 0 ++ vs ++ Z.toArray.toList.drop (0 + vs.length)) = vs := by
    rw [List.drop_eq_nil_of_le (by simp; omega)]
    simp
  rw [e]
  exact setRow_heap w g _ _ 37 _ hg

set_option maxRecDepth 100000 in
set_option maxHeartbeats 1600000 in
theorem counts_big (a : Option Addr) (l k : Nat) (w : World) (hl : 4096 < l) :
    Calls Yba.prog 4 #[.slice a l k] w fun e w' => e = .returned (.bool true) ∧ Below w.heap.size w w' := by
  have hl' : (4096 : Int) < (l : Int) := by omega
  go_enter Yba.func4, Yba.ntmps4
  go_wp2
  go_ret
  exact ⟨rfl, Below.refl _ _⟩

set_option maxRecDepth 100000 in
set_option maxHeartbeats 1600000 in
theorem counts_nil (w : World) :
    Calls Yba.prog 4 #[.slice none 0 0] w fun e w' => e = .returned (.bool true) ∧ Below w.heap.size w w' := by
  go_enter Yba.func4, Yba.ntmps4
  go_wp2_with (first
    | (go_at_call 10; refine (new_walk _ _ _).mono ?_; rintro e w3 ⟨rfl, hb3, -, -, hbel3⟩; have HB3 := hb3.set4 (.slice none 0 0); have c4 := hb3.c4; have f4 := hb3.fz 4; have d4 := HB3.c4)
    | (go_at_call 11; refine (len_walk _ _ _ _ _ _ _ _ _ HB3).mono ?_; rintro e w4 ⟨rfl, rfl⟩))
  refine wp_loop_rounds 1 ?_
  rw [rounds_succ]
  go_wp2_with (first
    | (go_at_call 11; refine (len_walk _ _ _ _ _ _ _ _ _ HB3).mono ?_; rintro e w4 ⟨rfl, rfl⟩))
  go_ret
  exact ⟨rfl, hbel3.setCell (by simp) _⟩

set_option maxRecDepth 100000 in
set_option maxHeartbeats 1600000 in
theorem counts_zero (a : Addr) (k : Nat) (w : World) :
    Calls Yba.prog 4 #[.slice (some a) 0 k] w fun e w' => e = .returned (.bool true) ∧ Below w.heap.size w w' := by
  obtain ⟨Z, hZ, hmk⟩ := make76 w 0 (by omega)
  rw [show ((0 : Nat) : Int) = 0 from rfl] at hmk
  obtain ⟨w1, e1⟩ : ∃ w1, w1 = w.alloc (.cells Z.toArray 37) := ⟨_, rfl⟩
  have bel1 : Below w.heap.size w w1 := by rw [e1]; exact (Below.refl _ w).alloc (Nat.le_refl _) _
  rw [← e1] at hmk
  have B1 : Hid (Below w.heap.size w w1) := bel1
  have hcp := run_copy_none (P := Yba.prog) w1 76 76 3 37 (some ⟨w.heap.size, 0, none⟩) (some a) 0 0 0 k Yba.underlying76 (by kernel_rfl) rfl
  clear e1 bel1 hZ
  go_enter Yba.func4, Yba.ntmps4
  go_wp2_with (first
    | (go_at_call 10; refine (new_walk _ _ _).mono ?_; rintro e w3 ⟨rfl, hb3, -, -, hbel3⟩; have HB3 := hb3.set4 (.slice (some ⟨w.heap.size, 0, none⟩) 0 0); have c4 := hb3.c4; have f4 := hb3.fz 4; have d4 := HB3.c4)
    | (go_at_call 11; refine (len_walk _ _ _ _ _ _ _ _ _ HB3).mono ?_; rintro e w4 ⟨rfl, rfl⟩))
  refine wp_loop_rounds 1 ?_
  rw [rounds_succ]
  go_wp2_with (first
    | (go_at_call 11; refine (len_walk _ _ _ _ _ _ _ _ _ HB3).mono ?_; rintro e w4 ⟨rfl, rfl⟩))
  go_ret
  exact ⟨rfl, B1.out.trans ((hbel3.setCell (by simp) _).mono B1.out.size)⟩

set_option maxRecDepth 100000 in
set_option maxHeartbeats 1600000 in
theorem counts_some (b o l k : Nat) (vs : List Value) (w : World) (hl : l ≤ 4096) (hv : vs.length = l) (hc : w.rangeAt b o vs) (hs : ∀ v ∈ vs, ∃ p m q, v = .slice p m q) (hb : b < w.heap.size) :
    Calls Yba.prog 4 #[.slice (some ⟨b, o, none⟩) l k] w fun e w' => e = .returned (.bool true) ∧ Below w.heap.size w w' := by
  obtain ⟨Z, hZ, hmk⟩ := make76 w l hl
  obtain ⟨w1, e1⟩ : ∃ w1, w1 = w.alloc (.cells Z.toArray 37) := ⟨_, rfl⟩
  have hg : w1.heap[w.heap.size]? = some (.cells Z.toArray 37 (0, 0)) := by rw [e1]; exact heap_alloc_new w _
  have bel1 : Below w.heap.size w w1 := by rw [e1]; exact (Below.refl _ w).alloc (Nat.le_refl _) _
  rw [← e1] at hmk
  have hsrc : ∀ j v, vs[j]? = some v → w1.cell? ((⟨b, o, none⟩ : Addr).add j) = some v := fun j v hj => by
    have : (⟨b, o, none⟩ : Addr).add j = ⟨b, o + j, none⟩ := by unfold Addr.add; split <;> simp_all
    rw [this, bel1.cell hb]
    exact hc j v hj
  have h1 : ∀ v ∈ vs, v.oneCell' = true := fun v hv => by obtain ⟨p, m, q, rfl⟩ := hs v hv; rfl
  obtain ⟨w2, hcp, hg2, bel2⟩ := copy76 3 w w1 w.heap.size w.heap.size ⟨b, o, none⟩ l k Z vs hg hZ hv hsrc h1 bel1 (Nat.le_refl _)
  have HV : Hid (vs.length = l) := hv
  have HC : Hid (w.rangeAt b o vs) := hc
  have HS : Hid (∀ v ∈ vs, ∃ p m q, v = .slice p m q) := hs
  have HG : Hid (w2.heap[w.heap.size]? = some (.cells vs.toArray 37 (0, 0))) := hg2
  have hl' : ¬ (4096 : Int) < (l : Int) := by omega
  clear hg e1 hsrc hs hc hv hg2 h1 hZ bel1
  have B2 : Hid (Below w.heap.size w w2) := bel2
  clear bel2
  go_enter Yba.func4, Yba.ntmps4
  go_wp2_with (first
    | (go_at_call 10; refine (new_walk _ _ _).mono ?_; rintro e w3 ⟨rfl, hb3, -, -, hbel3⟩; have HB3 := hb3.set4 (.slice (some ⟨w.heap.size, 0, none⟩) l l); have c4 := hb3.c4; have f4 := hb3.fz 4; have d4 := HB3.c4)
    | (go_at_call 11; refine (len_walk _ _ _ _ _ _ _ _ _ HB3).mono ?_; rintro e w4 ⟨rfl, rfl⟩))
  obtain ⟨w4, e4⟩ : ∃ w4, w4 = w3.setCell { block := w2.heap.size + 1, off := 4 } (Value.slice (some { block := w.heap.size, off := 0 }) l l) := ⟨_, rfl⟩
  rw [← e4] at HB3 ⊢
  have B4 : Below w2.heap.size w2 w4 := by rw [e4]; exact hbel3.setCell (by simp) _
  have hlt2 : w.heap.size < w2.heap.size := (Array.getElem?_eq_some_iff.1 HG.out).1
  have G4 : w4.heap[w.heap.size]? = some (.cells vs.toArray 37 (0, 0)) := (B4.block _ hlt2).trans HG.out
  have B : Below w.heap.size w w4 := B2.out.trans (B4.mono (by omega))
  clear B4 d4 c4 f4 hbel3 hb3 e4 hmk hcp HG B2
  have HBX : Hid (Box w4 (w2.heap.size + 1) 1073741824 1073741824 0 (Value.slice (some { block := w.heap.size, off := 0 }) l l) 0 w2.heap.size) := HB3
  have HG4 : Hid (w4.heap[w.heap.size]? = some (.cells vs.toArray 37 (0, 0))) := G4
  have HB : Hid (Below w.heap.size w w4) := B
  clear HB3 G4 B hlt2
  go_loopw [6] (fun i wr => ∃ j : Nat, j ≤ l ∧ i = .int .i64 j ∧ Below w4.heap.size w4 wr) (fun i _ => l - (intOf i).toNat)
  case atStart => exact ⟨0, Nat.zero_le _, rfl, Below.refl _ _⟩
  case round =>
    obtain ⟨j, hj, rfl, bel⟩ := hrel
    have bx := HBX.out.below bel HBX.out.lt
    have c4 := bx.c4
    by_cases hlt : j < l
    · obtain ⟨v, ev⟩ : ∃ v, vs[j]? = some v := ⟨vs[j]'(by have := HV.out; omega), List.getElem?_eq_getElem _⟩
      obtain ⟨p, m, q, rfl⟩ := HS.out v (List.mem_of_getElem? ev)
      have hsz : w.heap.size < w4.heap.size := (Array.getElem?_eq_some_iff.1 HG4.out).1
      have ca : wr.cell? ⟨w.heap.size, j, none⟩ = some (.slice p m q) := by
        rw [bel.cell (p := ⟨w.heap.size, j, none⟩) hsz]
        have := HG4.out
        simp [World.cell?, this, ev]
      have cb : wr.cell? ⟨b, o + j, none⟩ = some (.slice p m q) := by
        rw [bel.cell (p := ⟨b, o + j, none⟩) (by simp; omega), HB.out.cell (p := ⟨b, o + j, none⟩) hb]
        exact HC.out j _ ev
      have hlt' : (j : Int) < (l : Int) := by omega
      have hBx : Hid (Box wr (w2.heap.size + 1) 1073741824 1073741824 0 (Value.slice (some { block := w.heap.size, off := 0 }) l l) 0 w2.heap.size) := bx
      have hbel : Hid (Below w4.heap.size w4 wr) := bel
      clear bx bel ev hsz
      go_wp2
      go_quiet (fail)
      go_wp2
      refine ⟨⟨j + 1, by omega, by simp, hbel.out.trans ⟨rfl, rfl, rfl, Nat.le_refl _, fun _ _ => rfl⟩⟩, ?_⟩
      simp [intOf]
      omega
    · have ej : j = l := by omega
      subst ej
      go_wp2_with (first
        | (go_at_call 11; refine (len_walk _ _ _ _ _ _ _ _ _ bx).mono ?_; rintro e w4 ⟨rfl, rfl⟩))
      go_ret
      exact ⟨rfl, HB.out.trans (bel.mono HB.out.size)⟩
end Go.Proofs.Ybulkcsck.Ob
