/-
  OWN TEXT. LawS4690BScript: the walk.
-/
import Derived.Test.YbulkcsckObF
import Derived.Lib.SliceRun
import Derived.Laws.OwnMore
namespace Go.Proofs.Ybulkcsck.Ob
open Go.RowKit Go.MuLone Go.Conc Go.Proofs.Ybulkcsck.Qu

theorem shed_sum (mf mb : Int) : ∀ ms, (shed mf mb ms).sum ≤ ms.sum
  | [] => Nat.le_refl _
  | [_] => Nat.le_refl _
  | x :: y :: r => by
    unfold shed
    split
    · have := shed_sum mf mb (y :: r)
      rw [List.sum_cons (a := x)]
      omega
    · exact Nat.le_refl _
theorem shed_len (mf mb : Int) : ∀ ms, (shed mf mb ms).length ≤ ms.length
  | [] => Nat.le_refl _
  | [_] => Nat.le_refl _
  | x :: y :: r => by
    unfold shed
    split
    · have := shed_len mf mb (y :: r)
      rw [List.length_cons (a := x)]
      omega
    · exact Nat.le_refl _

theorem info3 : ∃ i, Yba.prog.info? 3 = some i ∧ i.zero = some (.int .i64 0) ∧ i.size = 1 ∧ i.bytes = 8 := by
  have h : (Yba.prog.info? 3).map (fun i => (i.size, i.bytes)) = some (1, 8) := by kernel_rfl
  have h2 : (Yba.prog.info? 3).bind (·.zero) = some (.int .i64 0) := by kernel_rfl
  obtain ⟨i, hi, hb⟩ := Option.map_eq_some_iff.1 h
  rw [hi] at h2
  simp only [Prod.mk.injEq] at hb
  exact ⟨i, hi, h2, hb.1, hb.2⟩
theorem info5 : ∃ i, Yba.prog.info? 5 = some i ∧ i.zero = some (.int .u8 0) ∧ i.size = 1 ∧ i.bytes = 1 := by
  have h : (Yba.prog.info? 5).map (fun i => (i.size, i.bytes)) = some (1, 1) := by kernel_rfl
  have h2 : (Yba.prog.info? 5).bind (·.zero) = some (.int .u8 0) := by kernel_rfl
  obtain ⟨i, hi, hb⟩ := Option.map_eq_some_iff.1 h
  rw [hi] at h2
  simp only [Prod.mk.injEq] at hb
  exact ⟨i, hi, h2, hb.1, hb.2⟩

theorem eql37 (p : Addr) (l c : Nat) (w : World) : (binOp .eql 37 (.slice (some p) l c) (.slice none 0 0)).run Yba.prog w = .ok (.bool false) w := by
  simpa using Lib.run_eql_slice_nil (P := Yba.prog) w 37 5 (some p) l c 0 0 Yba.underlying37
theorem make37 (w : World) (n : Nat) (hn : n < 40) : ∃ Z : Array Value, (Instr.makeSlice 37 (.int .i64 (n : Int)) (.int .i64 (n : Int))).run Yba.prog w = .ok (.slice (some ⟨w.heap.size, 0, none⟩) n n) (w.alloc (.cells Z 5)) := by
  obtain ⟨i, hi, hz, hs, hb⟩ := info5
  have h := run_make (P := Yba.prog) w 37 5 i _ Yba.underlying37 hi hz .i64 .i64 n n (by omega) (by omega) (by rw [hb]; omega) (by omega)
  exact ⟨_, by rw [h]; simp; rfl⟩
theorem append3 (w : World) (B : Nat) (v : Value) (xs : List Value) (z : Int) (q : Qs w 3 B v xs) (hl : xs.length ≤ 2000) (hB : B ≤ w.heap.size) :
    ∃ p k w', (Builtin.append_ #[60, 60] 60 #[v, .slice (some ⟨w.heap.size, 0, none⟩) 1 1]).run Yba.prog (w.alloc (.cells #[.int .i64 z] 3)) = .ok (.slice p (xs.length + 1) k) w' ∧ Qs w' 3 B (.slice p (xs.length + 1) k) (xs ++ [.int .i64 z]) ∧ Grow B 3 w w' := by
  obtain ⟨i, hi, hz, hs, hb⟩ := info3
  have hu : (w.alloc (.cells #[.int .i64 z] 3)).cell? ⟨w.heap.size, 0, none⟩ = some (.int .i64 z) := by
    rw [World.cell?, heap_alloc_new]
    rfl
  obtain ⟨v', w', hr, hq, hg⟩ := (q.alloc (.cells #[.int .i64 z] 3)).append (P := Yba.prog) 60 60 i (.int .i64 0) 8 Yba.underlying60 hi hz hs hb rfl ⟨w.heap.size, 0, none⟩ 1 (.int .i64 z) hu rfl (by unfold maxLen; omega) (by omega) (by simp; omega)
  obtain ⟨p, k, rfl, _⟩ := hq.form
  rw [List.length_append, List.length_singleton] at hr hq
  refine ⟨p, k, w', hr, hq, hg.os, hg.tape, hg.output, Nat.le_trans (by simp) hg.size, fun n hn hor => ?_⟩
  have e : (w.alloc (.cells #[.int .i64 z] 3)).heap[n]? = w.heap[n]? := Below.heap_alloc _ _ _ hn
  rw [hg.block n (by simp; omega) (by rw [e]; exact hor), e]
theorem Qs.cell0 {w : World} {e : TypeId} {B g o k cap : Nat} {x : Value} {xs : List Value} (q : Qs w e B (.slice (some ⟨g, o, none⟩) k cap) (x :: xs)) : w.cell? ⟨g, o, none⟩ = some x := by
  obtain ⟨g', o', cap', he, _, _, hc, _⟩ := q.head
  simp only [Value.slice.injEq, Option.some.injEq, Addr.mk.injEq, and_true] at he
  obtain ⟨⟨rfl, rfl⟩, _⟩ := he
  exact hc
theorem Qs.tail1 {w : World} {e : TypeId} {B g o k cap : Nat} {x : Value} {xs : List Value} (q : Qs w e B (.slice (some ⟨g, o, none⟩) k cap) (x :: xs)) : Qs w e B (.slice (some ⟨g, o + 1, none⟩) xs.length (cap - 1)) xs ∧ (cap = 1 → Qs w e B (.slice (some ⟨g, o, none⟩) 0 0) xs) := by
  obtain ⟨g', o', cap', he, _, _, _, _, _, qt, qt1, _⟩ := q.head
  simp only [Value.slice.injEq, Option.some.injEq, Addr.mk.injEq, and_true] at he
  obtain ⟨⟨rfl, rfl⟩, _, rfl⟩ := he
  exact ⟨qt, qt1⟩
theorem Out.alloc {w : World} {b c B : Nat} {mf mb : Int} {ms : List Nat} (h : Out w b c B mf mb ms) (ob : Obj) : Out (w.alloc ob) b c B mf mb ms := by
  obtain ⟨fr, frs, hb, ⟨buf, u, v, h1, h2⟩, hq, hm⟩ := h
  exact ⟨fr, frs, hb.alloc ob, ⟨buf, u, v, by rw [Below.heap_alloc _ _ _ (Array.getElem?_eq_some_iff.1 h1).1]; exact h1, h2⟩, hq.alloc ob, hm⟩
theorem Out.grow {w w' : World} {b c B : Nat} {mf mb : Int} {ms : List Nat} (h : Out w b c B mf mb ms) (g : Grow B 3 w w') : Out w' b c B mf mb ms := by
  obtain ⟨fr, frs, hb, hc, hq, hm⟩ := h
  exact ⟨fr, frs, hb.of_grow g (by decide), hc.of_grow g, g.qs hq (by decide), hm⟩

theorem pop_rel {w : World} {B L T x y : Nat} {mf mb : Int} {r target : List Nat} {v : Value} (hL : L = r.length) (h2 : shed mf mb (x :: y :: r) = shed mf mb (y :: r)) (h1 : shed mf mb (x :: y :: r) = target) (hs : (x :: y :: r).sum ≤ 1000000) (hT : T = (x :: y :: r).sum)
    (hq : Qs w 3 B v ((y :: r).map fun x => Value.int .i64 ((x : Nat) : Int))) :
    ∃ ms', L + 1 = ms'.length ∧ shed mf mb ms' = target ∧ ms' ≠ [] ∧ Value.int .i64 (wrap64 ((T : Int) - (x : Int))) = .int .i64 ((ms'.sum : Nat) : Int) ∧ ms'.sum ≤ 1000000 ∧ Qs w 3 B v (ms'.map fun x => Value.int .i64 ((x : Nat) : Int)) := by
  refine ⟨y :: r, by simp [hL], by rw [← h2, h1], by simp, ?_, by rw [List.sum_cons] at hs; omega, hq⟩
  rw [List.sum_cons] at hs hT
  rw [wrap_small (by omega) (by omega)]
  congr 1
  omega
theorem fin_rel {W w : World} {B G j l n T : Nat} {mf mb : Int} {ms ms' : List Nat} {v : Value} (hG : G + (j + 1) = l + 1) (hj : j < l) (h1 : ms.sum ≤ 40 * j) (h2 : ms.length ≤ j) (hn : n < 40) (hf : ms' = shed mf mb (ms ++ [n])) (hT : T = ms'.sum)
    (hq : Qs w 3 B v (ms'.map fun x => Value.int .i64 ((x : Nat) : Int))) (ho : Out w (B + 1) B B mf mb ms') (hb : Below B W w) :
    ∃ (j' : Nat) (ms : List Nat), G + j' = l + 1 ∧ j' ≤ l ∧ Value.int .i64 ((j : Int) + 1) = .int .i64 j' ∧ Value.int .i64 (T : Int) = .int .i64 ((ms.sum : Nat) : Int) ∧ ms.sum ≤ 40 * j' ∧ ms.length ≤ j' ∧ Qs w 3 B v (ms.map fun x => Value.int .i64 ((x : Nat) : Int)) ∧ Out w (B + 1) B B mf mb ms ∧ Below B W w := by
  have e1 := shed_sum mf mb (ms ++ [n])
  have e2 := shed_len mf mb (ms ++ [n])
  rw [← hf] at e1 e2
  simp only [List.sum_append, List.sum_cons, List.sum_nil, Nat.add_zero] at e1
  simp only [List.length_append, List.length_singleton] at e2
  exact ⟨j + 1, ms', hG, by omega, by simp, by rw [hT], by omega, by omega, hq, ho, hb⟩

set_option maxRecDepth 100000 in
set_option maxHeartbeats 1600000 in
theorem script_big (a m : Int) (p : Option Addr) (l k : Nat) (w : World) (hl : 1024 < l) :
    Calls Yba.prog 5 #[.int .u8 a, .int .u8 m, .slice p l k] w fun e w' => e = .returned (.bool true) ∧ Below w.heap.size w w' := by
  have hl' : (1024 : Int) < (l : Int) := by omega
  go_enter Yba.func5, Yba.ntmps5
  go_wp2
  go_ret
  exact ⟨rfl, Below.refl _ _⟩

set_option maxRecDepth 100000 in
set_option maxHeartbeats 3200000 in
theorem script_walk (a m : Int) (p : Option Addr) (l k : Nat) (W : World) (hl : l ≤ 1024) (ha : 0 ≤ a ∧ a ≤ 255) (hm : 0 ≤ m ∧ m ≤ 255)
    (hc : ∀ j : Nat, j < l → ∃ b o x y, p = some ⟨b, o, none⟩ ∧ b < W.heap.size ∧ W.cell? ⟨b, o + j * 2, none⟩ = some (.int .u8 x) ∧ W.cell? ⟨b, o + j * 2 + 1, none⟩ = some (.int .u8 y) ∧ 0 ≤ x ∧ x ≤ 255 ∧ 0 ≤ y ∧ y ≤ 255) :
    Calls Yba.prog 5 #[.int .u8 a, .int .u8 m, .slice p l k] W fun e w' => e = .returned (.bool true) ∧ Below W.heap.size W w' := by
  have hl' : ¬ (1024 : Int) < (l : Int) := by omega
  have HC : Hid (∀ j : Nat, j < l → ∃ b o x y, p = some ⟨b, o, none⟩ ∧ b < W.heap.size ∧ W.cell? ⟨b, o + j * 2, none⟩ = some (.int .u8 x) ∧ W.cell? ⟨b, o + j * 2 + 1, none⟩ = some (.int .u8 y) ∧ 0 ≤ x ∧ x ≤ 255 ∧ 0 ≤ y ∧ y ≤ 255) := hc
  clear hc
  go_enter Yba.func5, Yba.ntmps5
  go_wp2_with (first
    | (go_at_call 10; refine (new_walk _ _ _).mono ?_; rintro e w1 ⟨rfl, hb1, hc1, -, hbel1⟩; have HC1 : Hid (w1.heap[W.heap.size]? = some (.chan 1 #[] false 0 0 false)) := hc1; have HL1 : Hid (Below W.heap.size W w1) := hbel1; clear hc1 hbel1)
    | (go_at_call 11; refine (len_walk _ _ _ _ _ _ _ _ _ hb1).mono ?_; rintro e w4 ⟨rfl, hw4⟩; rw [hw4]; clear hw4 w4))
  obtain ⟨B, hB⟩ : ∃ B, B = W.heap.size := ⟨_, rfl⟩
  obtain ⟨mf, emf⟩ : ∃ mf, mf = a % 12 := ⟨_, rfl⟩
  rw [← hB, ← emf]
  rw [← hB, ← emf] at hb1
  have HB : Hid (B = W.heap.size) := hB
  have HX : Hid (Box w1 (B + 1) mf m 0 (.slice none 0 0) 0 B) := hb1
  clear hB hb1 emf
  go_loopg [10, 11, 32] (l + 1) (fun n v t i wr => ∃ (j : Nat) (ms : List Nat), n + j = l + 1 ∧ j ≤ l ∧ i = .int .i64 j ∧ t = .int .i64 ((ms.sum : Nat) : Int) ∧ ms.sum ≤ 40 * j ∧ ms.length ≤ j ∧ Qs wr 3 B v (ms.map fun x => Value.int .i64 ((x : Nat) : Int)) ∧ Out wr (B + 1) B B mf m ms ∧ Below B W wr)
  case atStart => 
    refine ⟨0, [], by omega, by omega, rfl, rfl, by simp, by simp, Qs.nil _ _ _, ⟨_, [], HX.out, ?_, Qs.nil _ _ _, rfl⟩, ?_⟩
    · rw [HB.out]; exact ⟨#[], 0, 0, HC1.out, .inl rfl⟩
    · rw [HB.out]; exact HL1.out
  case round =>
    obtain ⟨j, ms, hn, hj, rfl, rfl, hsum, hlen, hq, ho, hbel⟩ := hrel
    clear HC1 HL1 HX
    by_cases hjl : j < l
    · obtain ⟨pb, po, x, y, rfl, hpb, hx, hy, hx0, hx1, hy0, hy1⟩ := HC.out j hjl
      have cx : wr.cell? ⟨pb, po + j * 2, none⟩ = some (.int .u8 x) := by rw [hbel.cell (p := ⟨pb, po + j * 2, none⟩) (by rw [HB.out]; exact hpb)]; exact hx
      have cy : wr.cell? ⟨pb, po + j * 2 + 1, none⟩ = some (.int .u8 y) := by rw [hbel.cell (p := ⟨pb, po + j * 2 + 1, none⟩) (by rw [HB.out]; exact hpb)]; exact hy
      have HQ : Hid (Qs wr 3 B u10 (ms.map fun x => Value.int .i64 ((x : Nat) : Int))) := hq
      have HO : Hid (Out wr (B + 1) B B mf m ms) := ho
      have HL : Hid (Below B W wr) := hbel
      have HN : Hid (gk + j = l + 1 ∧ ms.sum ≤ 40 * j ∧ ms.length ≤ j) := ⟨hn, hsum, hlen⟩
      have hjl' : (j : Int) < (l : Int) := by omega
      clear hq ho hbel hn hsum hlen hx hy hpb
      have HLa : Hid (Below B W (wr.alloc (.cells #[.int .u8 x, .int .u8 y] 92))) := HL.out.alloc (Nat.le_trans (Nat.le_of_eq HB.out) HL.out.size) _
      by_cases hx3 : x % 3 = 0
      · rcases ms with _ | ⟨m0, ms⟩
        · obtain ⟨p10, k10, rfl, _⟩ := HQ.out.form
          simp only [List.map_nil, List.length_nil] at HQ
          go_wp2_with (first
            | (go_at_call 13; refine (take_none (B + 1) B B mf m _ (HO.out.alloc _)).mono ?_; rintro e w4 ⟨rfl, hw4⟩; rw [hw4]; clear hw4 w4)
            | (go_at_call 11; refine (len_out (B + 1) B B mf m [] _ (HO.out.alloc _)).mono ?_; rintro e w4 ⟨rfl, hw4⟩; rw [hw4]; clear hw4 w4))
          go_roundg (gk - 1)
          case measure => have := HN.out; omega
          case rel => 
            have := HN.out
            exact ⟨j + 1, [], by omega, by omega, by simp, rfl, by simp, by simp, HQ.out.alloc _, HO.out.alloc _, HLa.out⟩
        · obtain ⟨g, o, cap, rfl, hcap, -⟩ := (show Qs wr 3 B u10 (Value.int .i64 ((m0 : Nat) : Int) :: ms.map fun x => Value.int .i64 ((x : Nat) : Int)) from HQ.out).head
          have hq : Qs wr 3 B (.slice (some ⟨g, o, none⟩) (ms.length + 1) cap) (Value.int .i64 ((m0 : Nat) : Int) :: ms.map fun x => Value.int .i64 ((x : Nat) : Int)) := by simpa using HQ.out
          have HA : Hid (Qs (wr.alloc (.cells #[.int .u8 x, .int .u8 y] 92)) 3 B (.slice (some ⟨g, o, none⟩) (ms.length + 1) cap) (Value.int .i64 ((m0 : Nat) : Int) :: ms.map fun x => Value.int .i64 ((x : Nat) : Int))) := hq.alloc _
          simp only [List.length_map] at hcap HQ
          clear HQ hq
          obtain ⟨L, eL⟩ : ∃ L, L = ms.length := ⟨_, rfl⟩
          obtain ⟨T, eT⟩ : ∃ T : Nat, T = (m0 :: ms).sum := ⟨_, rfl⟩
          simp only [List.length_map]
          rw [← eL] at HA hcap ⊢
          rw [← eT]
          have hs : (m0 :: ms).sum ≤ 1000000 := by have := HN.out; omega
          have HE : Hid (L = ms.length ∧ T = (m0 :: ms).sum ∧ (m0 :: ms).sum ≤ 1000000 ∧ B ≤ wr.heap.size) := ⟨eL, eT, hs, Nat.le_trans (Nat.le_of_eq HB.out) HL.out.size⟩
          clear eL eT hs
          go_wp2_with (first
            | (go_at_call 13; refine (take_cons (B + 1) B B mf m m0 ms _ (HO.out.alloc _) (by omega) (by omega) HE.out.2.2.1).mono ?_; rintro e w5 ⟨p5, q5, rfl, ho5, hk5⟩; have c5 := Qs.cell0 (hk5.qs HA.out); have HO5 : Hid (Out w5 (B + 1) B B mf m ms) := ho5; have HK5 : Hid (Keep B 3 (wr.alloc (.cells #[.int .u8 x, .int .u8 y] 92)) w5) := hk5; have heql : ∀ w, (binOp .eql 37 (.slice (some p5) m0 q5) (.slice none 0 0)).run Yba.prog w = .ok (.bool false) w := (fun w => eql37 p5 m0 q5 w); clear ho5 hk5)
            | (go_at_call 11; refine (len_out (B + 1) B B mf m ms _ HO5.out).mono ?_; rintro e w4 ⟨rfl, hw4⟩; rw [hw4, ← HE.out.1]; clear hw4 w4))
          · have hcap1 : cap = 1 := by assumption
            obtain ⟨eL, eT, hs, hBw⟩ := HE.out
            obtain ⟨n1, n2, n3⟩ := HN.out
            have hL0 : L = 0 := by omega
            go_roundg (gk - 1)
            case measure => omega
            case rel =>
              refine ⟨j + 1, ms, by omega, by omega, by simp, ?_, ?_, ?_, ?_, HO5.out, HLa.out.trans (HK5.out.below (by simp; omega))⟩
              · rw [eT, List.sum_cons]; rw [List.sum_cons] at hs; rw [wrap_small (by omega) (by omega)]; congr 1; omega
              · rw [List.sum_cons] at n2; omega
              · rw [List.length_cons] at n3; omega
              · have := (Qs.tail1 (HK5.out.qs HA.out)).2 hcap1
                rw [hL0]; exact this
          · obtain ⟨eL, eT, hs, hBw⟩ := HE.out
            obtain ⟨n1, n2, n3⟩ := HN.out
            go_roundg (gk - 1)
            case measure => omega
            case rel =>
              refine ⟨j + 1, ms, by omega, by omega, by simp, ?_, ?_, ?_, ?_, HO5.out, HLa.out.trans (HK5.out.below (by simp; omega))⟩
              · rw [eT, List.sum_cons]; rw [List.sum_cons] at hs; rw [wrap_small (by omega) (by omega)]; congr 1; omega
              · rw [List.sum_cons] at n2; omega
              · rw [List.length_cons] at n3; omega
              · have := (Qs.tail1 (HK5.out.qs HA.out)).1
                rw [List.length_map, ← eL] at this; exact this
      · obtain ⟨p10, k10, rfl, _⟩ := HQ.out.form
        simp only [List.length_map] at HQ
        simp only [List.length_map]
        obtain ⟨n, en⟩ : ∃ n : Nat, (n : Int) = y % 40 := ⟨(y % 40).toNat, by omega⟩
        have hn40 : n < 40 := by omega
        obtain ⟨Z, hmk⟩ := make37 (wr.alloc (.cells #[.int .u8 x, .int .u8 y] 92)) n hn40
        rw [World.size_alloc, en] at hmk
        obtain ⟨M, eM⟩ : ∃ M, M = ms.length := ⟨_, rfl⟩
        obtain ⟨T, eT⟩ : ∃ T : Nat, T = ms.sum := ⟨_, rfl⟩
        rw [← eM] at HQ ⊢
        rw [← eT]
        have HE : Hid (M = ms.length ∧ T = ms.sum ∧ B ≤ wr.heap.size ∧ (n : Int) = y % 40 ∧ n < 40 ∧ (ms ++ [n]).sum ≤ 1000000) := ⟨eM, eT, Nat.le_trans (Nat.le_of_eq HB.out) HL.out.size, en, hn40, by
          have := HN.out; simp only [List.sum_append, List.sum_cons, List.sum_nil]; omega⟩
        clear eM eT en hn40
        go_wp2_with (first
          | (go_at_call 12; refine (enq (B + 1) B B mf m ms _ ⟨wr.heap.size + 1, 0, none⟩ n n ((HO.out.alloc _).alloc _) (by omega) (by omega) (by have := HE.out.2.2.1; simp; omega) HE.out.2.2.2.2.2 (by have := HN.out; omega)).mono ?_; rintro e w5 ⟨rfl, ho5, hk5⟩; have hq5 := hk5.qs ((HQ.out.alloc (.cells #[.int .u8 x, .int .u8 y] 92)).alloc (.cells Z 5)); obtain ⟨p7, k7, w7, hap, q7, g7⟩ := append3 w5 B _ _ (y % 40) hq5 (by have := HN.out; rw [List.length_map]; omega) (Nat.le_trans (by have := HE.out.2.2.1; simp; omega) hk5.size); rw [List.length_map, ← HE.out.1] at hap q7; have HAP : Hid ((Builtin.append_ #[60, 60] 60 #[.slice p10 M k10, .slice (some ⟨w5.heap.size, 0, none⟩) 1 1]).run Yba.prog (w5.alloc (.cells #[.int .i64 (y % 40)] 3)) = .ok (.slice p7 (M + 1) k7) w7) := hap; have HQ7 : Hid (Qs w7 3 B (.slice p7 (M + 1) k7) ((ms.map fun x => Value.int .i64 ((x : Nat) : Int)) ++ [.int .i64 (y % 40)])) := q7; have HO7 : Hid (Out w7 (B + 1) B B mf m (shed mf m (ms ++ [n]))) := ho5.grow g7; have HL7 : Hid (Below B W w7) := (((HLa.out.alloc (by have := HE.out.2.2.1; simp; omega) _).trans (hk5.below (by have := HE.out.2.2.1; simp; omega))).trans (g7.below (Nat.le_trans (by have := HE.out.2.2.1; simp; omega) hk5.size))); clear hap q7 ho5 hk5 g7 hq5)
          | (at_builtin; (with_reducible refine wpList_append_any ?_ (.tmp 48) (.tmp 50) 60 60 ?_ ?_ (v := .slice p10 M k10) (y := .slice (some ⟨w5.heap.size, 0, none⟩) 1 1) ?_ ?_ HAP.out ?_); (first | exact rfl | skip); (first | exact rfl | skip); (first | exact rfl | skip); (first | exact rfl | skip); (first | exact rfl | skip)))
        obtain ⟨G, hG⟩ : ∃ G, G = gk - 1 := ⟨_, rfl⟩
        have HG : Hid (G < gk ∧ G + (j + 1) = l + 1) := by have := HN.out; exact ⟨by omega, by omega⟩
        clear hG
        have hw : wrap64 ((T : Int) + y % 40) = (((ms ++ [n]).sum : Nat) : Int) := by
          obtain ⟨_, e2, _, e4, _, e6⟩ := HE.out
          rw [← e4, e2]
          simp only [List.sum_append, List.sum_cons, List.sum_nil, Nat.add_zero] at e6 ⊢
          rw [wrap_small (by omega) (by omega)]
          omega
        obtain ⟨T1, eT1⟩ : ∃ T1 : Nat, T1 = (ms ++ [n]).sum := ⟨_, rfl⟩
        rw [hw, ← eT1]
        have HT1 : Hid (T1 = (ms ++ [n]).sum) := eT1
        clear hw eT1
        have HQ8 : Hid (Qs w7 3 B (.slice p7 (M + 1) k7) ((ms ++ [n]).map fun x => Value.int .i64 ((x : Nat) : Int))) := by
          have h1 := HQ7.out
          rw [← HE.out.2.2.2.1] at h1
          show Qs _ _ _ _ _
          rw [List.map_append]; exact h1
        clear HQ7 HAP HQ HO HLa cx cy hmk
        go_loopg [10, 11] (ms ++ [n]).length (fun k v t wq => wq = w7 ∧ ∃ ms', k = ms'.length ∧ shed mf m ms' = shed mf m (ms ++ [n]) ∧ ms' ≠ [] ∧ t = .int .i64 ((ms'.sum : Nat) : Int) ∧ ms'.sum ≤ 1000000 ∧ Qs w7 3 B v (ms'.map fun x => Value.int .i64 ((x : Nat) : Int)))
        case atStart => exact ⟨rfl, ms ++ [n], rfl, rfl, by simp, by rw [HT1.out], HE.out.2.2.2.2.2, HQ8.out⟩
        case round =>
          obtain ⟨hwq, ms', hk, hsh, hne, rfl, hsum, hq⟩ := hrel
          subst hwq
          clear HQ8
          rcases ms' with _ | ⟨x', _ | ⟨y', r⟩⟩
          · exact absurd rfl hne
          · obtain ⟨pa, ka, rfl, _⟩ := hq.form
            simp only [List.map_cons, List.map_nil, List.length_cons, List.length_nil, Nat.zero_add] at hq ⊢
            have HO9 : Hid (Out wr (B + 1) B B mf m [x']) := by have := HO7.out; rw [← hsh] at this; exact this
            obtain ⟨T2, eT⟩ : ∃ T : Nat, T = [x'].sum := ⟨_, rfl⟩
            rw [← eT]
            have HT : Hid (T2 = [x'].sum) := eT
            have HF : Hid ([x'] = shed mf m (ms ++ [n])) := hsh
            have HV : Hid (Qs wr 3 B (.slice pa 1 ka) ([x'].map fun x => Value.int .i64 ((x : Nat) : Int))) := hq
            clear hq hsh eT hsum hk hne HO7
            go_wp2_with (first
              | (go_at_call 11; refine (len_out (B + 1) B B mf m [x'] _ HO9.out).mono ?_; rintro e w4 ⟨rfl, hw4⟩; rw [hw4]; clear hw4 w4))
            go_roundg G
            case measure => exact HG.out.1
            case rel => exact fin_rel HG.out.2 hjl HN.out.2.1 HN.out.2.2 HE.out.2.2.2.2.1 HF.out HT.out HV.out HO9.out HL7.out
          · have hq' : Qs wr 3 B u10 (Value.int .i64 ((x' : Nat) : Int) :: ((y' :: r).map fun x => Value.int .i64 ((x : Nat) : Int))) := hq
            obtain ⟨g, o, cap, rfl, hcap, -, cg, -⟩ := hq'.head
            have q1 := (Qs.tail1 hq').1
            have hshe : shed mf m (x' :: y' :: r) = if mf < ((r.length : Nat) : Int) + 2 ∨ m < (((x' :: y' :: r).sum : Nat) : Int) then shed mf m (y' :: r) else x' :: y' :: r := rfl
            simp only [List.length_map, List.length_cons, Nat.add_assoc, Nat.reduceAdd] at hq q1 hcap ⊢
            obtain ⟨L, eL⟩ : ∃ L, L = r.length := ⟨_, rfl⟩
            obtain ⟨T2, eT⟩ : ∃ T : Nat, T = (x' :: y' :: r).sum := ⟨_, rfl⟩
            rw [← eL] at hq q1 hcap hshe ⊢
            rw [← eT] at hshe ⊢
            have HT : Hid (T2 = (x' :: y' :: r).sum) := eT
            have HK : Hid (gk = (x' :: y' :: r).length ∧ L = r.length ∧ shed mf m (x' :: y' :: r) = shed mf m (ms ++ [n]) ∧ (x' :: y' :: r).sum ≤ 1000000) := ⟨hk, eL, hsh, hsum⟩
            have HX : Hid (shed mf m (x' :: y' :: r) = if mf < (L : Int) + 2 ∨ m < (T2 : Int) then shed mf m (y' :: r) else x' :: y' :: r) := hshe
            have HV : Hid (Qs wr 3 B (.slice (some ⟨g, o, none⟩) (L + 2) cap) ((x' :: y' :: r).map fun x => Value.int .i64 ((x : Nat) : Int))) := hq
            have HQ1 : Hid (Qs wr 3 B (.slice (some ⟨g, o + 1, none⟩) (L + 1) (cap - 1)) ((y' :: r).map fun x => Value.int .i64 ((x : Nat) : Int))) := q1
            have hc1 : ¬ cap = 1 := by omega
            have hL1 : (1 : Int) < (L : Int) + 2 := by omega
            clear hq hq' hshe hk eL hsh hsum eT q1 hne
            by_cases h1 : mf < (L : Int) + 2
            · clear HO7
              go_wp2
              go_roundg (L + 1)
              case measure => have h1 := HK.out.1; have h2 := HK.out.2.1; simp only [List.length_cons] at h1; omega
              case rel => exact ⟨rfl, pop_rel HK.out.2.1 (HX.out.trans (if_pos (by omega))) HK.out.2.2.1 HK.out.2.2.2 HT.out HQ1.out⟩
            · have d1 : decide (mf < (L : Int) + 2) = false := by simpa using h1
              by_cases h2 : m < (T2 : Int)
              · clear HO7
                go_wp2
                go_roundg (L + 1)
                case measure => have h1 := HK.out.1; have h2 := HK.out.2.1; simp only [List.length_cons] at h1; omega
                case rel => exact ⟨rfl, pop_rel HK.out.2.1 (HX.out.trans (if_pos (by omega))) HK.out.2.2.1 HK.out.2.2.2 HT.out HQ1.out⟩
              · have d2 : decide (m < (T2 : Int)) = false := by simpa using h2
                have HF : Hid (x' :: y' :: r = shed mf m (ms ++ [n])) := by
                  have k6 := HX.out
                  rw [if_neg (by omega)] at k6
                  exact k6.symm.trans HK.out.2.2.1
                have HO9 : Hid (Out wr (B + 1) B B mf m (x' :: y' :: r)) := by have := HO7.out; rw [← HF.out] at this; exact this
                clear HO7
                go_wp2_with (first
                  | (go_at_call 11; refine (len_out (B + 1) B B mf m (x' :: y' :: r) _ HO9.out).mono ?_; rintro e w4 ⟨rfl, hw4⟩; rw [hw4, List.length_cons, List.length_cons, ← HK.out.2.1]; clear hw4 w4))
                go_roundg G
                case measure => exact HG.out.1
                case rel => exact fin_rel HG.out.2 hjl HN.out.2.1 HN.out.2.2 HE.out.2.2.2.2.1 HF.out HT.out HV.out HO9.out HL7.out
    · have ej : j = l := by omega
      subst ej
      have HL : Hid (Below B W wr) := hbel
      clear hq ho hbel hsum hlen
      go_wp2
      go_ret
      exact ⟨rfl, by rw [← HB.out]; exact HL.out⟩
end Go.Proofs.Ybulkcsck.Ob
