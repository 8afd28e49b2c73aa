/-
  OWN TEXT. The days: cmp.Compare, cmp.Or, Date.Compare, errors.New, the day's making, unplaced.
-/
import Derived.Test.YbulkcsfqFmtFa
import Derived.Deep.RegionHeld3
namespace Go.Proofs.YbulkcsfqFmt.Fa
open Go.RowKit Go.Extern.Stop Go.Stop Go.Extern

def Hd (p : Prop) : Prop := p
theorem Hd.out {p : Prop} (h : Hd p) : p := h
theorem ret_int {k : IntKind} {a b : Int} (h : a = b) : Ending.returned (.int k a) = .returned (.int k b) := by rw [h]

def cmpI (x y : Int) : Int := if x < y then -1 else if y < x then 1 else 0
def orI (x y : Int) : Int := if x = 0 then y else x
theorem orI_zero (y : Int) : orI 0 y = y := rfl
theorem orI_ne {x : Int} (y : Int) (h : ¬ x = 0) : orI x y = x := if_neg h

set_option maxHeartbeats 400000 in
theorem compare19 (x y : Int) (w : World) :
    Calls Ybaf.prog 19 #[.int .i64 x, .int .i64 y] w fun e w' => e = .returned (.int .i64 (cmpI x y)) ∧ w' = w := by
  have e : Hd (cmpI x y = if x < y then -1 else if y < x then 1 else 0) := rfl
  go_enter Ybaf.func19, Ybaf.ntmps19
  go_wp2
  · go_ret; exact ⟨ret_int (by rw [e.out, if_pos ‹_›]), rfl⟩
  · go_ret; exact ⟨ret_int (by rw [e.out, if_neg (by omega), if_pos ‹_›]), rfl⟩
  · go_ret; exact ⟨ret_int (by rw [e.out, if_neg (by omega), if_neg (by omega)]), rfl⟩
set_option maxHeartbeats 400000 in
theorem compare20 (x y : Int) (w : World) :
    Calls Ybaf.prog 20 #[.int .i64 x, .int .i64 y] w fun e w' => e = .returned (.int .i64 (cmpI x y)) ∧ w' = w := by
  have e : Hd (cmpI x y = if x < y then -1 else if y < x then 1 else 0) := rfl
  go_enter Ybaf.func20, Ybaf.ntmps20
  go_wp2
  · go_ret; exact ⟨ret_int (by rw [e.out, if_pos ‹_›]), rfl⟩
  · go_ret; exact ⟨ret_int (by rw [e.out, if_neg (by omega), if_pos ‹_›]), rfl⟩
  · go_ret; exact ⟨ret_int (by rw [e.out, if_neg (by omega), if_neg (by omega)]), rfl⟩

def or3 (x y z : Int) : Int := orI x (orI y z)
set_option maxHeartbeats 400000 in
theorem or_any (b : Nat) (x y z : Int) (w : World) (h0 : w.cell? ⟨b, 0, none⟩ = some (.int .i64 x)) (h1 : w.cell? ⟨b, 1, none⟩ = some (.int .i64 y)) (h2 : w.cell? ⟨b, 2, none⟩ = some (.int .i64 z)) :
    Calls Ybaf.prog 18 #[.slice (some ⟨b, 0, none⟩) 3 3] w fun e w' => e = .returned (.int .i64 (or3 x y z)) ∧ w' = w := by
  by_cases c0 : x = 0
  · subst c0
    by_cases c1 : y = 0
    · subst c1
      by_cases c2 : z = 0
      · subst c2
        go_enter Ybaf.func18, Ybaf.ntmps18
        go_wp2
        refine wp_loop_rounds 4 ?_
        rw [rounds_succ]
        go_wp2
        rw [rounds_succ]
        go_wp2
        rw [rounds_succ]
        go_wp2
        rw [rounds_succ]
        go_wp2
        go_ret
        exact ⟨ret_int rfl, rfl⟩
      · go_enter Ybaf.func18, Ybaf.ntmps18
        go_wp2
        refine wp_loop_rounds 4 ?_
        rw [rounds_succ]
        go_wp2
        rw [rounds_succ]
        go_wp2
        rw [rounds_succ]
        go_wp2
        go_ret
        exact ⟨ret_int rfl, rfl⟩
    · go_enter Ybaf.func18, Ybaf.ntmps18
      go_wp2
      refine wp_loop_rounds 4 ?_
      rw [rounds_succ]
      go_wp2
      rw [rounds_succ]
      go_wp2
      go_ret
      exact ⟨ret_int (by unfold or3; rw [orI_zero, orI_ne _ c1]), rfl⟩
  · go_enter Ybaf.func18, Ybaf.ntmps18
    go_wp2
    refine wp_loop_rounds 4 ?_
    rw [rounds_succ]
    go_wp2
    go_ret
    exact ⟨ret_int (by unfold or3; rw [orI_ne _ c0]), rfl⟩

/-- a date's three cells -/
structure Dt where
  y : Int
  m : Int
  d : Int
def dcmp (a b : Dt) : Int := or3 (cmpI a.y b.y) (cmpI a.m b.m) (cmpI a.d b.d)

set_option maxRecDepth 100000 in
set_option maxHeartbeats 1000000 in
theorem date_compare (a b : Dt) (w : World) :
    Calls Ybaf.prog 13 #[.agg #[.int .i64 a.y, .int .i64 a.m, .int .i64 a.d], .agg #[.int .i64 b.y, .int .i64 b.m, .int .i64 b.d]] w fun e w' => e = .returned (.int .i64 (dcmp a b)) ∧ Below w.heap.size w w' := by
  obtain ⟨y, m, d⟩ := a
  obtain ⟨y', m', d'⟩ := b
  have e1 : Hd (dcmp ⟨y, m, d⟩ ⟨y', m', d'⟩ = or3 (cmpI y y') (cmpI m m') (cmpI d d')) := rfl
  generalize dcmp ⟨y, m, d⟩ ⟨y', m', d'⟩ = R at e1 ⊢
  have f0 : Hd ((((w.alloc (.cells #[.int .i64 y, .int .i64 m, .int .i64 d] 27)).alloc (.cells #[.int .i64 y', .int .i64 m', .int .i64 d'] 27)).alloc (.cells #[.int .i64 (cmpI y y'), .int .i64 (cmpI m m'), .int .i64 (cmpI d d')] 3)).drew.cell? ⟨w.heap.size + 1 + 1, 0, none⟩ = some (.int .i64 (cmpI y y'))) := by unfold Hd; simp [go_sem]
  have f1 : Hd ((((w.alloc (.cells #[.int .i64 y, .int .i64 m, .int .i64 d] 27)).alloc (.cells #[.int .i64 y', .int .i64 m', .int .i64 d'] 27)).alloc (.cells #[.int .i64 (cmpI y y'), .int .i64 (cmpI m m'), .int .i64 (cmpI d d')] 3)).drew.cell? ⟨w.heap.size + 1 + 1, 1, none⟩ = some (.int .i64 (cmpI m m'))) := by unfold Hd; simp [go_sem]
  have f2 : Hd ((((w.alloc (.cells #[.int .i64 y, .int .i64 m, .int .i64 d] 27)).alloc (.cells #[.int .i64 y', .int .i64 m', .int .i64 d'] 27)).alloc (.cells #[.int .i64 (cmpI y y'), .int .i64 (cmpI m m'), .int .i64 (cmpI d d')] 3)).drew.cell? ⟨w.heap.size + 1 + 1, 2, none⟩ = some (.int .i64 (cmpI d d'))) := by unfold Hd; simp [go_sem]
  go_enter Ybaf.func13, Ybaf.ntmps13
  go_wp2
  go_region_held3 (fun w' => w'.cell? ⟨w.heap.size, 0, none⟩ = some (.int .i64 y) ∧ w'.cell? ⟨w.heap.size, 1, none⟩ = some (.int .i64 m) ∧ w'.cell? ⟨w.heap.size, 2, none⟩ = some (.int .i64 d) ∧ w'.cell? ⟨w.heap.size + 1, 0, none⟩ = some (.int .i64 y') ∧ w'.cell? ⟨w.heap.size + 1, 1, none⟩ = some (.int .i64 m') ∧ w'.cell? ⟨w.heap.size + 1, 2, none⟩ = some (.int .i64 d')) (simp [go_sem, World.cell?_alloc_past])
    (first
      | (go_at_call 19; refine (compare19 _ _ _).mono ?_; rintro e w' ⟨rfl, rfl⟩)
      | (go_at_call 20; refine (compare20 _ _ _).mono ?_; rintro e w' ⟨rfl, rfl⟩)
      | (go_at_call 18; refine (or_any _ (cmpI y y') (cmpI m m') (cmpI d d') _ ?_ ?_ ?_).mono ?_; exact f0.out; exact f1.out; exact f2.out; rintro e w' ⟨rfl, rfl⟩))
  go_wp2
  go_ret
  exact ⟨ret_int (by rw [e1.out]), ((((Below.refl _ _).alloc (Nat.le_refl _) _).alloc (by simp) _).alloc (by simp; omega) _).drew⟩
end Go.Proofs.YbulkcsfqFmt.Fa
