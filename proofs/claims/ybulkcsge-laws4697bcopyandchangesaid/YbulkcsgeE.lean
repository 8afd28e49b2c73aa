/-
  OWN TEXT. LawS4697BCopyAndChange (func 4), walked: up to the switch.
-/
import Derived.Test.YbulkcsgeD
namespace Go.Proofs.Ybulkcsge
open Go.RowKit

set_option maxRecDepth 100000 in
set_option maxHeartbeats 1600000 in
theorem long_a (p : ByteArray) (q q' : Option Addr) (l c l' c' : Nat) (tp : Option Addr) (sel k : Int) (w : World) (hl : 1024 < l) :
    Calls Yba.prog 4 #[.string p, .slice q l c, .slice q' l' c', .pointer tp, .int .u8 sel, .int .i64 k] w fun e w' => e = .returned (.bool true) ∧ Below w.heap.size w w' := by
  have hl' : (1024 : Int) < (l : Int) := by omega
  go_enter Yba.func4, Yba.ntmps4
  go_wp2
  go_ret
  exact ⟨rfl, Below.refl _ _⟩
set_option maxRecDepth 100000 in
set_option maxHeartbeats 1600000 in
theorem long_e (p : ByteArray) (q q' : Option Addr) (l c l' c' : Nat) (tp : Option Addr) (sel k : Int) (w : World) (hn : l ≤ 1024) (hl : 1024 < l') :
    Calls Yba.prog 4 #[.string p, .slice q l c, .slice q' l' c', .pointer tp, .int .u8 sel, .int .i64 k] w fun e w' => e = .returned (.bool true) ∧ Below w.heap.size w w' := by
  have hl' : (1024 : Int) < (l' : Int) := by omega
  have hn' : ¬ (1024 : Int) < (l : Int) := by omega
  go_enter Yba.func4, Yba.ntmps4
  go_wp2
  go_ret
  exact ⟨rfl, Below.refl _ _⟩

/-- the state behind the copy: h at H, o at O, all else of the call's below O or the timeout's own variable -/
structure Cop (w : World) (hv : Hv) (va ve : Value) (tp : Option Addr) (va' ve' : Value) (tp' : Option Addr) (O : Nat) (w3 W : World) : Prop where
  b3 : Below w.heap.size w w3
  sz : O = w3.heap.size
  lt : w.heap.size < O
  h3 : Hk w3 w.heap.size hv.p va ve tp
  a : SV w va hv.n hv.la
  e : SV w ve hv.m hv.le
  t : TV w tp hv.x
  oa : Own w.heap.size w3 va' hv.n hv.la
  oe : Own w.heap.size w3 ve' hv.m hv.le
  l1 : hv.la.length ≤ 1024
  l2 : hv.le.length ≤ 1024
  bW : Below O w3 W
  blk : W.heap[O]? = some (.cells #[.string hv.p, va', ve', .pointer tp'] 25 (0, 0))
  tt : (tp = none ∧ tp' = none ∧ hv.x = none) ∨ (∃ x, hv.x = some x ∧ tp' = some ⟨O + 1, 0, none⟩ ∧ W.heap[O + 1]? = some (.cells #[.int .i64 x] 3 (0, 0)))

theorem Cop.below {w : World} {hv : Hv} {va ve : Value} {tp : Option Addr} {va' ve' : Value} {tp' : Option Addr} {O : Nat} {w3 W W' : World} (h : Cop w hv va ve tp va' ve' tp' O w3 W) (hb : Below W.heap.size W W') : Cop w hv va ve tp va' ve' tp' O w3 W' := by
  have hO : O < W.heap.size := (Array.getElem?_eq_some_iff.1 h.blk).1
  refine ⟨h.b3, h.sz, h.lt, h.h3, h.a, h.e, h.t, h.oa, h.oe, h.l1, h.l2, h.bW.trans (hb.mono (by omega)), (hb.block _ hO).trans h.blk, ?_⟩
  rcases h.tt with h1 | ⟨x, h1, h2, h3⟩
  · exact .inl h1
  · exact .inr ⟨x, h1, h2, (hb.block _ (Array.getElem?_eq_some_iff.1 h3).1).trans h3⟩

theorem cell_block {w : World} {b i : Nat} {L : List Value} {t : TypeId} {f : Nat × Nat} {v : Value} (h : w.heap[b]? = some (.cells L.toArray t f)) (hv : L[i]? = some v) : w.cell? ⟨b, i, none⟩ = some v := by
  simp [World.cell?, h, hv]

section
variable {w : World} {hv : Hv} {va ve : Value} {tp : Option Addr} {va' ve' : Value} {tp' : Option Addr} {O : Nat} {w3 W : World}
theorem Cop.bw (h : Cop w hv va ve tp va' ve' tp' O w3 W) : Below w.heap.size w W := h.b3.trans (h.bW.mono (Nat.le_of_lt h.lt))
/-- the first hook -/
theorem Cop.hookH (h : Cop w hv va ve tp va' ve' tp' O w3 W) : Hook W w.heap.size va ve tp hv :=
  ⟨h.h3.below (h.sz ▸ h.bW), h.a.below h.bw, h.e.below h.bw, h.t.below h.bw, Nat.le_trans h.l1 (by decide), Nat.le_trans h.l2 (by decide)⟩
/-- the copy -/
theorem Cop.hookO (h : Cop w hv va ve tp va' ve' tp' O w3 W) : Hook W O va' ve' tp' hv := by
  have b := h.sz ▸ h.bW
  refine ⟨⟨cell_block (L := [_, _, _, _]) h.blk rfl, cell_block (L := [_, _, _, _]) h.blk rfl, cell_block (L := [_, _, _, _]) h.blk rfl, cell_block (L := [_, _, _, _]) h.blk rfl, (Array.getElem?_eq_some_iff.1 h.blk).1⟩, (h.oa.sv).below b, (h.oe.sv).below b, ?_, Nat.le_trans h.l1 (by decide), Nat.le_trans h.l2 (by decide)⟩
  rcases h.tt with ⟨h1, h2, h3⟩ | ⟨x, h1, h2, h3⟩
  · rw [h2, h3]; exact .none
  · rw [h1, h2]; exact .some _ _ _ (cell_block (L := [_]) h3 rfl) (Array.getElem?_eq_some_iff.1 h3).1
theorem Cop.pe (h : Cop w hv va ve tp va' ve' tp' O w3 W) : ∃ c c', PE W tp tp' c ∧ PE W tp' tp c' := by
  rcases h.tt with ⟨h1, h2, h3⟩ | ⟨x, h1, h2, h3⟩
  · rw [h1, h2]; exact ⟨_, _, pe_same _ _, pe_same _ _⟩
  · have ht := h.t
    rw [h1] at ht
    rw [h2]
    cases ht with
    | some b o x hx hb =>
      have hbw := h.bw
      have := pe_own (w := W) (b := b) (o := o) (g := O + 1) ((hbw.cell (p := ⟨b, o, none⟩) hb).trans hx) (Nat.lt_of_lt_of_le hb hbw.size) h3 (by have := h.lt; omega)
      exact ⟨_, _, this.1, this.2⟩
end
end Go.Proofs.Ybulkcsge
