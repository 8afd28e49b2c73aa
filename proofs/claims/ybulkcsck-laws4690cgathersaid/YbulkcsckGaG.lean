/-
  OWN TEXT. LawS4690CGather: signed; the sets of signers.
-/
import Derived.Test.YbulkcsckGaF
namespace Go.Proofs.Ybulkcsck.Ga
open Go.RowKit

theorem methodVerify (v : Value) (w : World) : (Go.method 295 96 v "Verify").run Yba.prog w = .ok (77, v) w := by kernel_rfl

set_option maxRecDepth 100000 in
set_option maxHeartbeats 800000 in
theorem signed_own (rb : Nat) (id : Int) (st sg : Value) (w : World) (h0 : w.cell? ⟨rb, 0, none⟩ = some (.int .i64 id)) :
    Calls Yba.prog 24 #[.pointer (some ⟨rb, 0, none⟩), .int .i64 id, st, sg] w fun e w' => e = .returned (.bool true) ∧ w' = w := by
  go_enter Yba.func24, Yba.ntmps24
  go_wp2
  go_ret
  exact ⟨rfl, rfl⟩

set_option maxRecDepth 100000 in
set_option maxHeartbeats 800000 in
theorem signed_foreign (ρ : Nat → Nat) (rb kb gb c : Nat) (id fr : Int) (ans : Bool) (frm : List Int) (stm : List (List Int)) (l : List Int) (ps : Option Addr) (ns cs : Nat) (w : World) (h0 : w.cell? ⟨rb, 0, none⟩ = some (.int .i64 id)) (h3 : w.cell? ⟨rb, 3, none⟩ = some (.iface 96 (.pointer (some ⟨kb, 0, none⟩))))
    (hne : ¬ fr = id) (h : Ky ρ kb ans frm stm w) (hg : Rw ρ 18 5 1 w (.slice (some ⟨gb, 0, none⟩) 71 c) 71 (u8s l)) (hl : l.length = 71) (hle : frm.length ≤ 900) :
    Calls Yba.prog 24 #[.pointer (some ⟨rb, 0, none⟩), .int .i64 fr, .slice (some ⟨gb, 0, none⟩) 71 c, .slice ps ns cs] w (VerP ρ kb ans (frm ++ [fr]) (stm ++ [l]) w) := by
  have mV := methodVerify
  have k1 : Chg ρ (rx ρ w 18) (fun _ => False) w (w.alloc (.cells #[.int .i64 fr, .slice ps ns cs] 39)) := Chg.alloc w _ 18
  have hv : Hid (Calls Yba.prog 77 #[.pointer (some ⟨kb, 0, none⟩), .slice (some ⟨gb, 0, none⟩) 71 c, .slice (some ⟨w.heap.size, 0, none⟩) 1 1] (w.alloc (.cells #[.int .i64 fr, .slice ps ns cs] 39)) (VerP ρ kb ans (frm ++ [fr]) (stm ++ [l]) w)) := by
    refine (verify (rx ρ w 18) kb w.heap.size gb c ans frm stm fr l _ (h.chg k1 (fun q => q) (fun q => q) (fun q => q) (fun q => q) (fun q => q)) (by simp [go_sem]) (hg.chg k1 (fun q => q)) hl hle).mono ?_
    rintro e w' ⟨ρ', h1, h2, h3⟩
    exact ⟨ρ', h1, h2, (k1.mono (fun _ q => q.elim)).trans h3⟩
  have hne' : (fr == id) = false := by simp [hne]
  clear h hg hl hle k1 hne
  go_enter Yba.func24, Yba.ntmps24
  go_wp2_with (go_at_call 77; (with_reducible refine hv.out.mono ?_); rintro e w' ⟨ρ', rfl, h2, h3⟩; have fin : Hid (VerP ρ kb ans (frm ++ [fr]) (stm ++ [l]) w (.returned (.bool ans)) w') := ⟨ρ', rfl, h2, h3⟩; clear h2 h3)
  go_ret
  exact fin.out

/-- a set of signers -/
structure Ss (ρ : Nat → Nat) (s : Nat) (w : World) (vb hb gb n cnt : Nat) (hs : List Bool) (sg : List Value) : Prop where
  v : Bk ρ (2 + s) w vb #[.slice (some ⟨hb, 0, none⟩) n n, .int .i64 cnt, .slice (some ⟨gb, 0, none⟩) n n] 103
  h : Bk ρ (5 + s) w hb (hs.map Value.bool).toArray 4
  g : Bk ρ (8 + s) w gb sg.toArray 37
  lh : hs.length = n
  lg : sg.length = n
theorem Ss.chg {ρ ρ' : Nat → Nat} {R : Nat → Prop} {s : Nat} {w w' : World} {vb hb gb n cnt : Nat} {hs : List Bool} {sg : List Value} (k : Ss ρ s w vb hb gb n cnt hs sg) (h : Chg ρ ρ' R w w') (h1 : ¬ R (2 + s)) (h2 : ¬ R (5 + s)) (h3 : ¬ R (8 + s)) : Ss ρ' s w' vb hb gb n cnt hs sg :=
  ⟨k.v.chg h h1, k.h.chg h h2, k.g.chg h h3, k.lh, k.lg⟩
theorem Ss.bool {ρ : Nat → Nat} {s : Nat} {w : World} {vb hb gb n cnt : Nat} {hs : List Bool} {sg : List Value} (k : Ss ρ s w vb hb gb n cnt hs sg) {i : Nat} {b : Bool} (hi : hs[i]? = some b) : w.cell? ⟨hb, i, none⟩ = some (.bool b) :=
  k.h.cell (by simp [hi])

/-- the set behind an 'add' -/
theorem Ss.add {ρ : Nat → Nat} {s : Nat} {w : World} {vb hb gb n cnt : Nat} {hs : List Bool} {sg : List Value} (k : Ss ρ s w vb hb gb n cnt hs sg) (i : Nat) (sv : Value) :
    Ss ρ s (((w.setCell ⟨hb, i, none⟩ (.bool true)).setCell ⟨vb, 1, none⟩ (.int .i64 (cnt + 1 : Nat))).setCell ⟨gb, i, none⟩ sv) vb hb gb n (cnt + 1) (hs.set i true) (sg.set i sv) ∧
      Chg ρ ρ (fun r => r = 2 + s ∨ r = 5 + s ∨ r = 8 + s) w (((w.setCell ⟨hb, i, none⟩ (.bool true)).setCell ⟨vb, 1, none⟩ (.int .i64 (cnt + 1 : Nat))).setCell ⟨gb, i, none⟩ sv) := by
  have a1 : Chg ρ ρ (fun r => r = 5 + s) w (w.setCell ⟨hb, i, none⟩ (.bool true)) := Chg.setCell w hb i _ k.h.r
  have v1 := k.v.chg a1 (by omega)
  have g1 := k.g.chg a1 (by omega)
  have h1' := k.h.set i (.bool true)
  have a2 : Chg ρ ρ (fun r => r = 2 + s) (w.setCell ⟨hb, i, none⟩ (.bool true)) ((w.setCell ⟨hb, i, none⟩ (.bool true)).setCell ⟨vb, 1, none⟩ (.int .i64 (cnt + 1 : Nat))) := Chg.setCell _ vb 1 _ v1.r
  have v2 := v1.set 1 (.int .i64 (cnt + 1 : Nat))
  have g2 := g1.chg a2 (by omega)
  have h2 := h1'.chg a2 (by omega)
  have a3 : Chg ρ ρ (fun r => r = 8 + s) ((w.setCell ⟨hb, i, none⟩ (.bool true)).setCell ⟨vb, 1, none⟩ (.int .i64 (cnt + 1 : Nat))) (((w.setCell ⟨hb, i, none⟩ (.bool true)).setCell ⟨vb, 1, none⟩ (.int .i64 (cnt + 1 : Nat))).setCell ⟨gb, i, none⟩ sv) := Chg.setCell _ gb i _ g2.r
  refine ⟨⟨v2.chg a3 (by omega), ?_, ?_, by simp [k.lh], by simp [k.lg]⟩, ((a1.mono (fun r h => .inr (.inl h))).trans (a2.mono (fun r h => .inl h))).trans (a3.mono (fun r h => .inr (.inr h)))⟩
  · have := h2.chg a3 (by omega)
    rw [List.setIfInBounds_toArray, ← List.map_set] at this
    exact this
  · have := g2.set i sv
    rw [List.setIfInBounds_toArray] at this
    exact this

set_option maxRecDepth 100000 in
set_option maxHeartbeats 800000 in
theorem add_there (ρ : Nat → Nat) (s : Nat) (w : World) (vb hb gb n cnt : Nat) (hs : List Bool) (sg : List Value) (i : Nat) (sv : Value) (k : Ss ρ s w vb hb gb n cnt hs sg) (hi : hs[i]? = some true) :
    Calls Yba.prog 26 #[.pointer (some ⟨vb, 0, none⟩), .int .i64 i, sv] w fun e w' => e = .returned (.bool false) ∧ w' = w := by
  have c0 : w.cell? ⟨vb, 0, none⟩ = some (.slice (some ⟨hb, 0, none⟩) n n) := k.v.cell rfl
  have cb := k.bool hi
  have hlt : (i : Int) < (n : Int) := by have := (List.getElem?_eq_some_iff.1 hi).1; have := k.lh; omega
  clear k hi
  go_enter Yba.func26, Yba.ntmps26
  go_wp2
  go_ret
  exact ⟨rfl, rfl⟩

set_option maxRecDepth 100000 in
set_option maxHeartbeats 800000 in
theorem add_new (ρ : Nat → Nat) (s : Nat) (w : World) (vb hb gb n cnt : Nat) (hs : List Bool) (sg : List Value) (i : Nat) (ps : Option Addr) (ns cs : Nat) (k : Ss ρ s w vb hb gb n cnt hs sg) (hi : hs[i]? = some false) (hc : cnt ≤ 1000) :
    Calls Yba.prog 26 #[.pointer (some ⟨vb, 0, none⟩), .int .i64 i, .slice ps ns cs] w fun e w' => e = .returned (.bool true) ∧ Ss ρ s w' vb hb gb n (cnt + 1) (hs.set i true) (sg.set i (.slice ps ns cs)) ∧ Chg ρ ρ (fun r => r = 2 + s ∨ r = 5 + s ∨ r = 8 + s) w w' := by
  have fin : Hid _ := k.add i (.slice ps ns cs)
  have hlt0 : i < n := by have := (List.getElem?_eq_some_iff.1 hi).1; have := k.lh; omega
  have hlt : (i : Int) < (n : Int) := by omega
  -- the cells as the walk meets them
  have c0 : w.cell? ⟨vb, 0, none⟩ = some (.slice (some ⟨hb, 0, none⟩) n n) := k.v.cell rfl
  have c1 : w.cell? ⟨vb, 1, none⟩ = some (.int .i64 cnt) := k.v.cell rfl
  have cb := k.bool hi
  have fb := k.h.fz i
  have a1 : Chg ρ ρ (fun r => r = 5 + s) w (w.setCell ⟨hb, i, none⟩ (.bool true)) := Chg.setCell w hb i _ k.h.r
  have v1 := k.v.chg a1 (by omega)
  have g1 := k.g.chg a1 (by omega)
  have d1 : (w.setCell ⟨hb, i, none⟩ (.bool true)).cell? ⟨vb, 1, none⟩ = some (.int .i64 cnt) := v1.cell rfl
  have f1 := v1.fz 1
  have a2 : Chg ρ ρ (fun r => r = 2 + s) (w.setCell ⟨hb, i, none⟩ (.bool true)) ((w.setCell ⟨hb, i, none⟩ (.bool true)).setCell ⟨vb, 1, none⟩ (.int .i64 (cnt + 1 : Nat))) := Chg.setCell _ vb 1 _ v1.r
  have v2 := v1.set 1 (.int .i64 (cnt + 1 : Nat))
  have g2 := g1.chg a2 (by omega)
  have d2 : ((w.setCell ⟨hb, i, none⟩ (.bool true)).setCell ⟨vb, 1, none⟩ (.int .i64 (cnt + 1 : Nat))).cell? ⟨vb, 2, none⟩ = some (.slice (some ⟨gb, 0, none⟩) n n) := v2.cell rfl
  obtain ⟨u, hu⟩ : ∃ u, sg[i]? = some u := ⟨_, List.getElem?_eq_getElem (by have := k.lg; omega)⟩
  have d3 : ((w.setCell ⟨hb, i, none⟩ (.bool true)).setCell ⟨vb, 1, none⟩ (.int .i64 (cnt + 1 : Nat))).cell? ⟨gb, i, none⟩ = some u := g2.cell (by simpa using hu)
  have f3 := g2.fz i
  have wr : wrap64 ((cnt : Int) + 1) = ((cnt + 1 : Nat) : Int) := by unfold wrap64; omega
  have c0' : (w.setCell ⟨hb, i, none⟩ (.bool true)).cell? ⟨vb, 1, none⟩ = some (.int .i64 cnt) := d1
  clear k hi v1 g1 a1 a2 v2 g2 hu
  generalize hC : ((cnt + 1 : Nat) : Int) = C at *
  have fin' : Hid (Ss ρ s (((w.setCell ⟨hb, i, none⟩ (.bool true)).setCell ⟨vb, 1, none⟩ (.int .i64 C)).setCell ⟨gb, i, none⟩ (.slice ps ns cs)) vb hb gb n (cnt + 1) (hs.set i true) (sg.set i (.slice ps ns cs)) ∧ Chg ρ ρ (fun r => r = 2 + s ∨ r = 5 + s ∨ r = 8 + s) w (((w.setCell ⟨hb, i, none⟩ (.bool true)).setCell ⟨vb, 1, none⟩ (.int .i64 C)).setCell ⟨gb, i, none⟩ (.slice ps ns cs))) := by
    subst hC; exact fin.out
  have HC : Hid ((cnt : Int) + 1 = C) := by unfold Hid; omega
  clear fin hC
  have inner : Hid (Calls Yba.prog 37 #[.pointer (some ⟨vb, 0, none⟩), .int .i64 i] w fun e w' => e = .returned (.bool true) ∧ w' = (w.setCell ⟨hb, i, none⟩ (.bool true)).setCell ⟨vb, 1, none⟩ (.int .i64 C)) := by
    clear fin' d2 d3 f3
    go_enter Yba.func37, Yba.ntmps37
    go_wp2
    go_ret
    exact ⟨rfl, by rw [HC.out]⟩
  obtain ⟨w2, e2⟩ : ∃ w2, w2 = (w.setCell ⟨hb, i, none⟩ (.bool true)).setCell ⟨vb, 1, none⟩ (.int .i64 C) := ⟨_, rfl⟩
  rw [← e2] at d2 d3 f3 fin' inner
  clear e2 c0 c1 cb fb d1 f1 c0' wr
  go_enter Yba.func26, Yba.ntmps26
  go_wp2_with (go_at_call 37; (with_reducible refine inner.out.mono ?_); rintro e w3 ⟨rfl, hw3⟩; rw [hw3]; clear hw3 w3)
  go_ret
  exact ⟨rfl, fin'.out⟩
end Go.Proofs.Ybulkcsck.Ga
