/-
  OWN TEXT. After, OnOrAfter.
-/
import Derived.Test.YbulkcsfqFmtGc
import Derived.Deep.Cut
import Derived.Deep.MidRow
namespace Go.Proofs.YbulkcsfqFmt.Fa
open Go.RowKit Go.Extern.Stop Go.Stop Go.Extern

def dayL (a b c d e f : Int) (v : Value) : List Value := [.int .i64 0, .int .i64 0, .int .i64 0, .int .i64 0, .int .i64 a, .int .i64 b, .int .i64 c, .int .i64 d, .int .i64 e, .int .i64 f, v]
theorem inf31 (a b c d e f : Int) (v : Value) : (Ybaf.prog.info? 31).map (·.size) = some (dayL a b c d e f v).length := by kernel_rfl
theorem range_new' (w : World) (l : List Value) (t : TypeId) : (w.alloc (.cells l.toArray t)).rangeAt w.heap.size 0 l := by
  intro j v hv
  simp [go_sem, hv]
theorem range_below {B : Nat} {w w' : World} (hb : Below B w w') {b o : Nat} {l : List Value} (hB : b < B) (h : w.rangeAt b o l) : w'.rangeAt b o l :=
  fun j v hv => (hb.cell (p := ⟨b, o + j, none⟩) hB).trans (h j v hv)
theorem Wraps.later {w w1 w' : World} {v x : Value} (h : Wraps w1 w' v x) (hs : w.heap.size ≤ w1.heap.size) : Wraps w w' v x := by
  obtain ⟨a, h1, h2, h3, h4⟩ := h
  exact ⟨a, h1, Nat.le_trans hs h2, h3, h4⟩

/-- what After and OnOrAfter answer: true where A; no error where A or B; else an error that wraps v -/
def AftP (w : World) (v : Value) (A B : Prop) (x : Ending) (w' : World) : Prop :=
  ∃ o z, x = .returned (.tuple #[.bool o, z]) ∧ Below w.heap.size w w' ∧ (o = true ↔ A) ∧ (A ∨ B → z = .nilIface) ∧ (¬ A → ¬ B → Wraps w w' v z)
/-- the two boxed arguments -/
structure Boxed (w : World) (L M : List Value) (W : World) : Prop where
  r : W.rangeAt w.heap.size 0 L
  s : W.rangeAt (w.heap.size + 1) 0 M
  z : w.heap.size + 2 ≤ W.heap.size
  b : Below w.heap.size w W
theorem Boxed.start (w : World) (L M : List Value) (t t' : TypeId) : Boxed w L M ((w.alloc (.cells L.toArray t)).alloc (.cells M.toArray t')) := by
  refine ⟨World.rangeAt_alloc (range_new' w L t) _, ?_, by simp, ((Below.refl _ _).alloc (Nat.le_refl _) _).alloc (by simp) _⟩
  have := range_new' (w.alloc (.cells L.toArray t)) M t'
  rw [World.size_alloc] at this
  exact this
theorem Boxed.step {w w1 w2 : World} {L M : List Value} (h : Boxed w L M w1) (hb : Below w1.heap.size w1 w2) : Boxed w L M w2 := by
  obtain ⟨h1, h2, h3, h4⟩ := h
  exact ⟨range_below hb (by omega) h1, range_below hb (by omega) h2, by have := hb.size; omega, h4.trans (hb.mono (by omega))⟩
theorem Boxed.l {w W : World} {L M : List Value} (h : Boxed w L M W) (j : Nat) (v : Value) (hj : L[j]? = some v) : W.cell? ⟨w.heap.size, j, none⟩ = some v := by
  have := h.r j v hj
  rw [Nat.zero_add] at this
  exact this
theorem Boxed.m {w W : World} {L M : List Value} (h : Boxed w L M W) (j : Nat) (v : Value) (hj : M[j]? = some v) : W.cell? ⟨w.heap.size + 1, j, none⟩ = some v := by
  have := h.s j v hj
  rw [Nat.zero_add] at this
  exact this

set_option maxRecDepth 100000 in
set_option maxHeartbeats 1600000 in
theorem after_any (F : Interp) (a b c d e f y m u : Int) (v : Value) (w : World) (hF : F.answers w.tape) (hv : ErrV w v) :
    Calls Ybaf.prog 8 #[.agg #[.int .i64 0, .int .i64 0, .int .i64 0, .int .i64 0, .int .i64 a, .int .i64 b, .int .i64 c, .int .i64 d, .int .i64 e, .int .i64 f, v], .agg #[.int .i64 y, .int .i64 m, .int .i64 u]] w
      (AftP w v (0 < dcmp ⟨a, b, c⟩ ⟨y, m, u⟩) (dcmp ⟨d, e, f⟩ ⟨y, m, u⟩ ≤ 0)) := by
  have st : Hd (Boxed w (dayL a b c d e f v) [.int .i64 y, .int .i64 m, .int .i64 u] ((w.alloc (.cells #[.int .i64 0, .int .i64 0, .int .i64 0, .int .i64 0, .int .i64 a, .int .i64 b, .int .i64 c, .int .i64 d, .int .i64 e, .int .i64 f, v] 31)).alloc (.cells #[.int .i64 y, .int .i64 m, .int .i64 u] 27))) := Boxed.start w (dayL a b c d e f v) _ 31 27
  go_enter Ybaf.func8, Ybaf.ntmps8
  go_upto_region 1 with fail
  generalize ((World.alloc w _).alloc _) = W at st ⊢
  have l4 := st.out.l 4 _ rfl
  have l5 := st.out.l 5 _ rfl
  have l6 := st.out.l 6 _ rfl
  have m0 := st.out.m 0 _ rfl
  have m1 := st.out.m 1 _ rfl
  have m2 := st.out.m 2 _ rfl
  have hd1 : Hd (∀ w1, Below W.heap.size W w1 → Boxed w (dayL a b c d e f v) [.int .i64 y, .int .i64 m, .int .i64 u] w1) := fun w1 h => st.out.step h
  by_cases hA : 0 < dcmp ⟨a, b, c⟩ ⟨y, m, u⟩
  · go_wp2_with (go_at_call 13; refine (date_compare ⟨a, b, c⟩ ⟨y, m, u⟩ _).mono ?_; rintro x w1 ⟨rfl, h1⟩)
    go_ret2
    exact ⟨_, _, rfl, (hd1.out _ h1).b, ⟨fun _ => hA, fun _ => rfl⟩, fun _ => rfl, fun h => absurd hA h⟩
  · go_upto_region 3 with (go_at_call 13; refine (date_compare ⟨a, b, c⟩ ⟨y, m, u⟩ _).mono ?_; rintro x w1 ⟨rfl, h1⟩)
    have st1 : Hd _ := hd1.out _ h1
    clear hd1 l4 l5 l6 m0 m1 m2 h1 st
    have l7 := st1.out.l 7 _ rfl
    have l8 := st1.out.l 8 _ rfl
    have l9 := st1.out.l 9 _ rfl
    have m0 := st1.out.m 0 _ rfl
    have m1 := st1.out.m 1 _ rfl
    have m2 := st1.out.m 2 _ rfl
    have hd1 : Hd (∀ w2, Below w1.heap.size w1 w2 → Boxed w (dayL a b c d e f v) [.int .i64 y, .int .i64 m, .int .i64 u] w2) := fun w1 h => st1.out.step h
    by_cases hB : dcmp ⟨d, e, f⟩ ⟨y, m, u⟩ ≤ 0
    · go_wp2_with (go_at_call 13; refine (date_compare ⟨d, e, f⟩ ⟨y, m, u⟩ _).mono ?_; rintro x w2 ⟨rfl, h2⟩)
      go_ret2
      exact ⟨_, _, rfl, (hd1.out _ h2).b, ⟨fun h => (Bool.noConfusion h), fun h => absurd h (by omega)⟩, fun _ => rfl, fun _ h => absurd hB h⟩
    · go_upto_region 5 with (go_at_call 13; refine (date_compare ⟨d, e, f⟩ ⟨y, m, u⟩ _).mono ?_; rintro x w2 ⟨rfl, h2⟩)
      have st2 : Hd _ := hd1.out _ h2
      clear hd1 l7 l8 l9 m0 m1 m2 h2 st1
      have hF2 : F.answers w2.tape := by rw [st2.out.b.tape]; exact hF
      have hv2 : ErrV w2 v := hv.below st2.out.b
      have hr : Hd (w2.rangeAt w.heap.size 0 (dayL a b c d e f v)) := st2.out.r
      have hb2 : Hd (Below w.heap.size w w2) := st2.out.b
      have hs2 : Hd (w.heap.size ≤ w2.heap.size) := st2.out.b.size
      go_wp2_with first
        | ((with_reducible refine wpList_load_mid rfl 31 (.tmp 2) rfl w.heap.size 0 ?_ (dayL a b c d e f v) _ ?_ Ybaf.underlying31 ?_ ?_ ?_); (exact rfl); (exact hr.out); (exact rfl); (exact inf31 ..))
        | (go_at_call 14; refine (unplaced_any F a b c d e f v _ hF2 hv2).mono ?_; rintro x w3 ⟨z, rfl, hz, h3⟩)
      go_ret2
      exact ⟨_, _, rfl, hb2.out.trans (h3.mono hs2.out), ⟨fun h => (Bool.noConfusion h), fun h => absurd h (by omega)⟩, fun h => absurd h (by omega), fun _ _ => hz.later hs2.out⟩

set_option maxRecDepth 100000 in
set_option maxHeartbeats 1600000 in
theorem onor_any (F : Interp) (a b c d e f y m u : Int) (v : Value) (w : World) (hF : F.answers w.tape) (hv : ErrV w v) :
    Calls Ybaf.prog 11 #[.agg #[.int .i64 0, .int .i64 0, .int .i64 0, .int .i64 0, .int .i64 a, .int .i64 b, .int .i64 c, .int .i64 d, .int .i64 e, .int .i64 f, v], .agg #[.int .i64 y, .int .i64 m, .int .i64 u]] w
      (AftP w v (0 ≤ dcmp ⟨a, b, c⟩ ⟨y, m, u⟩) (dcmp ⟨d, e, f⟩ ⟨y, m, u⟩ < 0)) := by
  have st : Hd (Boxed w (dayL a b c d e f v) [.int .i64 y, .int .i64 m, .int .i64 u] ((w.alloc (.cells #[.int .i64 0, .int .i64 0, .int .i64 0, .int .i64 0, .int .i64 a, .int .i64 b, .int .i64 c, .int .i64 d, .int .i64 e, .int .i64 f, v] 31)).alloc (.cells #[.int .i64 y, .int .i64 m, .int .i64 u] 27))) := Boxed.start w (dayL a b c d e f v) _ 31 27
  go_enter Ybaf.func11, Ybaf.ntmps11
  go_upto_region 1 with fail
  generalize ((World.alloc w _).alloc _) = W at st ⊢
  have l4 := st.out.l 4 _ rfl
  have l5 := st.out.l 5 _ rfl
  have l6 := st.out.l 6 _ rfl
  have m0 := st.out.m 0 _ rfl
  have m1 := st.out.m 1 _ rfl
  have m2 := st.out.m 2 _ rfl
  have hd1 : Hd (∀ w1, Below W.heap.size W w1 → Boxed w (dayL a b c d e f v) [.int .i64 y, .int .i64 m, .int .i64 u] w1) := fun w1 h => st.out.step h
  by_cases hA : 0 ≤ dcmp ⟨a, b, c⟩ ⟨y, m, u⟩
  · go_wp2_with (go_at_call 13; refine (date_compare ⟨a, b, c⟩ ⟨y, m, u⟩ _).mono ?_; rintro x w1 ⟨rfl, h1⟩)
    go_ret2
    exact ⟨_, _, rfl, (hd1.out _ h1).b, ⟨fun _ => hA, fun _ => rfl⟩, fun _ => rfl, fun h => absurd hA h⟩
  · go_upto_region 3 with (go_at_call 13; refine (date_compare ⟨a, b, c⟩ ⟨y, m, u⟩ _).mono ?_; rintro x w1 ⟨rfl, h1⟩)
    have st1 : Hd _ := hd1.out _ h1
    clear hd1 l4 l5 l6 m0 m1 m2 h1 st
    have l7 := st1.out.l 7 _ rfl
    have l8 := st1.out.l 8 _ rfl
    have l9 := st1.out.l 9 _ rfl
    have m0 := st1.out.m 0 _ rfl
    have m1 := st1.out.m 1 _ rfl
    have m2 := st1.out.m 2 _ rfl
    have hd1 : Hd (∀ w2, Below w1.heap.size w1 w2 → Boxed w (dayL a b c d e f v) [.int .i64 y, .int .i64 m, .int .i64 u] w2) := fun w1 h => st1.out.step h
    by_cases hB : dcmp ⟨d, e, f⟩ ⟨y, m, u⟩ < 0
    · go_wp2_with (go_at_call 13; refine (date_compare ⟨d, e, f⟩ ⟨y, m, u⟩ _).mono ?_; rintro x w2 ⟨rfl, h2⟩)
      go_ret2
      exact ⟨_, _, rfl, (hd1.out _ h2).b, ⟨fun h => (Bool.noConfusion h), fun h => absurd h (by omega)⟩, fun _ => rfl, fun _ h => absurd hB h⟩
    · go_upto_region 5 with (go_at_call 13; refine (date_compare ⟨d, e, f⟩ ⟨y, m, u⟩ _).mono ?_; rintro x w2 ⟨rfl, h2⟩)
      have st2 : Hd _ := hd1.out _ h2
      clear hd1 l7 l8 l9 m0 m1 m2 h2 st1
      have hF2 : F.answers w2.tape := by rw [st2.out.b.tape]; exact hF
      have hv2 : ErrV w2 v := hv.below st2.out.b
      have hr : Hd (w2.rangeAt w.heap.size 0 (dayL a b c d e f v)) := st2.out.r
      have hb2 : Hd (Below w.heap.size w w2) := st2.out.b
      have hs2 : Hd (w.heap.size ≤ w2.heap.size) := st2.out.b.size
      go_wp2_with first
        | ((with_reducible refine wpList_load_mid rfl 31 (.tmp 2) rfl w.heap.size 0 ?_ (dayL a b c d e f v) _ ?_ Ybaf.underlying31 ?_ ?_ ?_); (exact rfl); (exact hr.out); (exact rfl); (exact inf31 ..))
        | (go_at_call 14; refine (unplaced_any F a b c d e f v _ hF2 hv2).mono ?_; rintro x w3 ⟨z, rfl, hz, h3⟩)
      go_ret2
      exact ⟨_, _, rfl, hb2.out.trans (h3.mono hs2.out), ⟨fun h => (Bool.noConfusion h), fun h => absurd h (by omega)⟩, fun h => absurd h (by omega), fun _ _ => hz.later hs2.out⟩

end Go.Proofs.YbulkcsfqFmt.Fa
