/-
  OWN TEXT. The law LawS4696CRate (func 5), walked.
-/
import Derived.Test.YbulkcsfqFmtFb
import Derived.Deep.Cut
import Derived.Deep.MidRow
import Derived.LaidEql
namespace Go.Proofs.YbulkcsfqFmt.Fa
open Go.RowKit Go.Extern.Stop Go.Stop Go.Extern

/-- a MarginStage of which only name and rate are stated -/
def Stage (nm : ByteArray) (p : Option Addr) : List Value := [.string nm, .int .i64 0, .int .i64 0, .int .i64 0, .int .i64 0, .int .i64 0, .int .i64 0, .int .i64 0, .int .i64 0, .int .i64 0, .int .i64 0, .nilIface, .int .i64 0, .int .i64 0, .int .i64 0, .int .i64 0, .int .i64 0, .int .i64 0, .int .i64 0, .int .i64 0, .int .i64 0, .int .i64 0, .nilIface, .pointer p]
theorem stated_some' (nm : ByteArray) (b : Nat) (x y : Int) (w : World) (hb : b < w.heap.size) (h0 : w.cell? ⟨b, 0, none⟩ = some (.int .i64 x)) (h1 : w.cell? ⟨b, 1, none⟩ = some (.int .i64 y)) :
    Calls Ybaf.prog 12 #[.agg (Stage nm (some ⟨b, 0, none⟩)).toArray] w fun e w' => e = .returned (.tuple #[.agg #[.int .i64 x, .int .i64 y], .nilIface]) ∧ Below w.heap.size w w' :=
  stated_some nm b x y w hb h0 h1
theorem stated_nil' (F : Interp) (nm : ByteArray) (w : World) (hF : F.answers w.tape) :
    Calls Ybaf.prog 12 #[.agg (Stage nm none).toArray] w fun e w' => ∃ a, e = .returned (.tuple #[.agg #[.int .i64 0, .int .i64 0], .iface 48 (.pointer (some a))]) ∧ Below w.heap.size w w' :=
  stated_nil F nm w hF
theorem inf42 (nm : ByteArray) (p : Option Addr) : (Ybaf.prog.info? 42).map (·.size) = some (Stage nm p).length := by kernel_rfl

theorem eql_ptr_same {P : Program} (w : World) {t e : TypeId} (a : Addr) (hp : P.underlying t = some (.pointer e)) (hi : (P.info? e).isSome = true) :
    (binOp .eql t (.pointer (some a)) (.pointer (some a))).run P w = .ok (.bool true) w := by
  obtain ⟨i, he⟩ := Option.isSome_iff_exists.1 hi
  have h : ∀ d : Nat, (Op.equalIn (d + 1) t (.pointer (some a)) (.pointer (some a))).run P w = .ok true w := fun d => by simp [Op.equalIn, run_underlying hp, sizeOf, typeInfo, he, run_sameAddr_same]
  simp only [binOp]
  simp [Op.equal, Op.maxDepth, h 9999]
@[go_sem] theorem eql40 (w : World) (a : Addr) : (binOp .eql 40 (.pointer (some a)) (.pointer (some a))).run Ybaf.prog w = .ok (.bool true) w :=
  eql_ptr_same w a Ybaf.underlying40 (by kernel_rfl)

def Hid (p : Prop) : Prop := p
theorem Hid.out {p : Prop} (h : Hid p) : p := h

theorem range_new (w : World) (l : List Value) (t : TypeId) : (w.alloc (.cells l.toArray t)).rangeAt w.heap.size 0 l := by
  intro j v hv
  simp [go_sem, hv]

set_option maxRecDepth 100000 in
set_option maxHeartbeats 1600000 in
theorem rate_true (nm : ByteArray) (w : World) :
    Calls Ybaf.prog 5 #[.string nm, .bool true] w fun e w' => e = .returned (.bool true) ∧ Below w.heap.size w w' := by
  go_enter Ybaf.func5, Ybaf.ntmps5
  go_upto_region 6 with fail
  generalize hW : ((World.alloc w _).alloc _) = W
  have hr : Hid (W.rangeAt w.heap.size 0 (Stage nm (some ⟨w.heap.size + 1, 0, none⟩))) := by
    rw [← hW]; exact World.rangeAt_alloc (range_new w (Stage nm (some ⟨w.heap.size + 1, 0, none⟩)) 42) _
  have hs : W.heap.size = w.heap.size + 2 := by rw [← hW]; simp
  have hc0 : W.cell? ⟨w.heap.size + 1, 0, none⟩ = some (.int .i64 0) := by clear hr; rw [← hW]; clear hW; go_simp
  have hc1 : W.cell? ⟨w.heap.size + 1, 1, none⟩ = some (.int .i64 0) := by clear hr; rw [← hW]; clear hW; go_simp
  have hn : W.cell? ⟨w.heap.size, 0, none⟩ = some (.string nm) := by have := hr.out 0 (.string nm) rfl; exact this
  have hp : W.cell? ⟨w.heap.size, 23, none⟩ = some (.pointer (some ⟨w.heap.size + 1, 0, none⟩)) := by have := hr.out 23 (.pointer (some ⟨w.heap.size + 1, 0, none⟩)) rfl; rw [Nat.zero_add] at this; exact this
  have hb : Below w.heap.size w W := by rw [← hW]; exact ((Below.refl _ w).alloc (Nat.le_refl _) _).alloc (by simp) _
  clear hW
  go_upto_region 7 with first
    | ((with_reducible refine wpList_load_mid rfl 42 (.tmp 5) rfl w.heap.size 0 ?_ (Stage nm (some ⟨w.heap.size + 1, 0, none⟩)) _ ?_ Ybaf.underlying42 ?_ ?_ ?_); (exact rfl); (exact hr.out); (exact rfl); (exact inf42 _ _))
    | (go_at_call 12; refine (stated_some' nm (w.heap.size+1) 0 0 _ ?_ ?_ ?_).mono ?_; (exact (by omega)); (exact hc0); (exact hc1); rintro e w5 ⟨rfl, h5⟩)
  have hS5 : W.heap.size ≤ w5.heap.size := h5.size
  have hc0' : w5.cell? ⟨w.heap.size + 1, 0, none⟩ = some (.int .i64 0) := (h5.cell (p := ⟨w.heap.size + 1, 0, none⟩) (by simp; omega)).trans hc0
  have hc1' : w5.cell? ⟨w.heap.size + 1, 1, none⟩ = some (.int .i64 0) := (h5.cell (p := ⟨w.heap.size + 1, 1, none⟩) (by simp; omega)).trans hc1
  have hn' : w5.cell? ⟨w.heap.size, 0, none⟩ = some (.string nm) := (h5.cell (p := ⟨w.heap.size, 0, none⟩) (by simp; omega)).trans hn
  have hp' : w5.cell? ⟨w.heap.size, 23, none⟩ = some (.pointer (some ⟨w.heap.size + 1, 0, none⟩)) := (h5.cell (p := ⟨w.heap.size, 23, none⟩) (by simp; omega)).trans hp
  have hb5 : Below w.heap.size w w5 := hb.trans (h5.mono (by omega))
  have hl5 : w.heap.size ≤ w5.heap.size := by omega
  clear hc0 hc1 hn hp hr h5 hb
  have hlt0 : w.heap.size < w5.heap.size := by omega
  have hlt1 : w.heap.size + 1 < w5.heap.size := by omega
  go_upto_region 9 with fail
  generalize hW9 : ((World.alloc w5 _).alloc _) = V
  have ha0 : V.cell? ⟨w5.heap.size, 0, none⟩ = some (.int .i64 0) := by rw [← hW9]; clear hW9; go_simp
  have ha1 : V.cell? ⟨w5.heap.size, 1, none⟩ = some (.int .i64 0) := by clear ha0; rw [← hW9]; clear hW9; go_simp
  have ha2 : V.cell? ⟨w5.heap.size + 1, 0, none⟩ = some (.int .i64 0) := by clear ha0 ha1; rw [← hW9]; clear hW9; go_simp
  have ha3 : V.cell? ⟨w5.heap.size + 1, 1, none⟩ = some (.int .i64 0) := by clear ha0 ha1 ha2; rw [← hW9]; clear hW9; go_simp
  have hbV : Below w5.heap.size w5 V := by rw [← hW9]; exact ((Below.refl _ _).alloc (Nat.le_refl _) _).alloc (by simp) _
  have hc0 : V.cell? ⟨w.heap.size + 1, 0, none⟩ = some (.int .i64 0) := (hbV.cell (p := ⟨w.heap.size + 1, 0, none⟩) hlt1).trans hc0'
  have hc1 : V.cell? ⟨w.heap.size + 1, 1, none⟩ = some (.int .i64 0) := (hbV.cell (p := ⟨w.heap.size + 1, 1, none⟩) hlt1).trans hc1'
  have hn : V.cell? ⟨w.heap.size, 0, none⟩ = some (.string nm) := (hbV.cell (p := ⟨w.heap.size, 0, none⟩) hlt0).trans hn'
  have hp : V.cell? ⟨w.heap.size, 23, none⟩ = some (.pointer (some ⟨w.heap.size + 1, 0, none⟩)) := (hbV.cell (p := ⟨w.heap.size, 23, none⟩) hlt0).trans hp'
  have hbw : Below w.heap.size w V := hb5.trans (hbV.mono hl5)
  clear hW9 hbV hb5 hc0' hc1' hn' hp'
  go_wp2
  go_ret
  exact ⟨rfl, hbw⟩

set_option maxRecDepth 100000 in
set_option maxHeartbeats 1600000 in
theorem rate_false (F : Interp) (nm : ByteArray) (w : World) (hF : F.answers w.tape) :
    Calls Ybaf.prog 5 #[.string nm,   .bool false] w fun e w' => e = .returned (.bool true) ∧ Below w.heap.size w w' := by
  go_enter Ybaf.func5, Ybaf.ntmps5
  go_upto_region 6 with fail
  generalize hW : ((World.alloc w _).alloc _) = W
  have hr : Hid (W.rangeAt w.heap.size 0 (Stage nm none)) := by
    rw [← hW]; exact World.rangeAt_alloc (range_new w (Stage nm none) 42) _
  have hs : W.heap.size = w.heap.size + 2 := by rw [← hW]; simp
  have hc0 : W.cell? ⟨w.heap.size + 1, 0, none⟩ = some (.int .i64 0) := by clear hr; rw [← hW]; clear hW; go_simp
  have hc1 : W.cell? ⟨w.heap.size + 1, 1, none⟩ = some (.int .i64 0) := by clear hr; rw [← hW]; clear hW; go_simp
  have hn : W.cell? ⟨w.heap.size, 0, none⟩ = some (.string nm) := by have := hr.out 0 (.string nm) rfl; exact this
  have hp : W.cell? ⟨w.heap.size, 23, none⟩ = some (.pointer none) := by have := hr.out 23 (.pointer none) rfl; rw [Nat.zero_add] at this; exact this
  have hb : Below w.heap.size w W := by rw [← hW]; exact ((Below.refl _ w).alloc (Nat.le_refl _) _).alloc (by simp) _
  have hFW : F.answers W.tape := by rw [← hW]; exact hF
  clear hW
  go_upto_region 7 with first
    | ((with_reducible refine wpList_load_mid rfl 42 (.tmp 5) rfl w.heap.size 0 ?_ (Stage nm none) _ ?_ Ybaf.underlying42 ?_ ?_ ?_); (exact rfl); (exact hr.out); (exact rfl); (exact inf42 _ _))
    | (go_at_call 12; refine (stated_nil' F nm W hFW).mono ?_; rintro e w5 ⟨ad, rfl, h5⟩)
  have hS5 : W.heap.size ≤ w5.heap.size := h5.size
  have hc0' : w5.cell? ⟨w.heap.size + 1, 0, none⟩ = some (.int .i64 0) := (h5.cell (p := ⟨w.heap.size + 1, 0, none⟩) (by simp; omega)).trans hc0
  have hc1' : w5.cell? ⟨w.heap.size + 1, 1, none⟩ = some (.int .i64 0) := (h5.cell (p := ⟨w.heap.size + 1, 1, none⟩) (by simp; omega)).trans hc1
  have hn' : w5.cell? ⟨w.heap.size, 0, none⟩ = some (.string nm) := (h5.cell (p := ⟨w.heap.size, 0, none⟩) (by simp; omega)).trans hn
  have hp' : w5.cell? ⟨w.heap.size, 23, none⟩ = some (.pointer none) := (h5.cell (p := ⟨w.heap.size, 23, none⟩) (by simp; omega)).trans hp
  have hb5 : Below w.heap.size w w5 := hb.trans (h5.mono (by omega))
  have hl5 : w.heap.size ≤ w5.heap.size := by omega
  clear hc0 hc1 hn hp hr h5 hb
  have hlt0 : w.heap.size < w5.heap.size := by omega
  have hlt1 : w.heap.size + 1 < w5.heap.size := by omega
  go_upto_region 10 with fail
  generalize hW9 : ((World.alloc w5 _).alloc _) = V
  have ha0 : V.cell? ⟨w5.heap.size, 0, none⟩ = some (.int .i64 0) := by rw [← hW9]; clear hW9; go_simp
  have ha1 : V.cell? ⟨w5.heap.size, 1, none⟩ = some (.int .i64 0) := by clear ha0; rw [← hW9]; clear hW9; go_simp
  have ha2 : V.cell? ⟨w5.heap.size + 1, 0, none⟩ = some (.int .i64 0) := by clear ha0 ha1; rw [← hW9]; clear hW9; go_simp
  have ha3 : V.cell? ⟨w5.heap.size + 1, 1, none⟩ = some (.int .i64 0) := by clear ha0 ha1 ha2; rw [← hW9]; clear hW9; go_simp
  have hbV : Below w5.heap.size w5 V := by rw [← hW9]; exact ((Below.refl _ _).alloc (Nat.le_refl _) _).alloc (by simp) _
  have hc0 : V.cell? ⟨w.heap.size + 1, 0, none⟩ = some (.int .i64 0) := (hbV.cell (p := ⟨w.heap.size + 1, 0, none⟩) hlt1).trans hc0'
  have hc1 : V.cell? ⟨w.heap.size + 1, 1, none⟩ = some (.int .i64 0) := (hbV.cell (p := ⟨w.heap.size + 1, 1, none⟩) hlt1).trans hc1'
  have hn : V.cell? ⟨w.heap.size, 0, none⟩ = some (.string nm) := (hbV.cell (p := ⟨w.heap.size, 0, none⟩) hlt0).trans hn'
  have hp : V.cell? ⟨w.heap.size, 23, none⟩ = some (.pointer none) := (hbV.cell (p := ⟨w.heap.size, 23, none⟩) hlt0).trans hp'
  have hbw : Below w.heap.size w V := hb5.trans (hbV.mono hl5)
  clear hW9 hbV hb5 hc0' hc1' hn' hp'
  go_wp2
  go_ret
  exact ⟨rfl, hbw⟩

end Go.Proofs.YbulkcsfqFmt.Fa
