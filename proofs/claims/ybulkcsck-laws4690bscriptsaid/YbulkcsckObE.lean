/-
  OWN TEXT. The outbox: its whole state; signal; take.
-/
import Derived.Test.YbulkcsckObA
import Derived.Test.YbulkcsckObD
import Derived.Deep.Draws
namespace Go.Proofs.Ybulkcsck.Ob
open Go.RowKit Go.MuLone Go.Conc Go.Proofs.Ybulkcsck.Qu

/-- w' keeps all below B, and all blocks of element type e. -/
structure Keep (B : Nat) (e : TypeId) (w w' : World) : Prop where
  os : w'.os = w.os
  tape : w'.tape = w.tape
  output : w'.output = w.output
  size : w.heap.size ≤ w'.heap.size
  block : ∀ k, k < w.heap.size → (k < B ∨ ∃ cur, w.heap[k]? = some (Obj.cells cur e (0, 0))) → w'.heap[k]? = w.heap[k]?

theorem Keep.refl (B : Nat) (e : TypeId) (w : World) : Keep B e w w := ⟨rfl, rfl, rfl, Nat.le_refl _, fun _ _ _ => rfl⟩
theorem Keep.trans {B : Nat} {e : TypeId} {x y z : World} (h : Keep B e x y) (k : Keep B e y z) : Keep B e x z :=
  ⟨k.os.trans h.os, k.tape.trans h.tape, k.output.trans h.output, Nat.le_trans h.size k.size, fun i hi hor => by
    have e1 := h.block i hi hor
    rw [k.block i (Nat.lt_of_lt_of_le hi h.size) (by rw [e1]; exact hor), e1]⟩
theorem Keep.of_grow {B : Nat} {e e' : TypeId} {w w' : World} (h : Grow B e' w w') (he : e' ≠ e) : Keep B e w w' :=
  ⟨h.os, h.tape, h.output, h.size, fun k hk hor => h.block k hk (hor.imp id fun ⟨cur, hc⟩ c hc' => by rw [hc] at hc'; simp only [Option.some.injEq, Obj.cells.injEq] at hc'; exact he hc'.2.1.symm)⟩
theorem Keep.below {B : Nat} {e : TypeId} {w w' : World} (h : Keep B e w w') (hB : B ≤ w.heap.size) : Below B w w' :=
  ⟨h.os, h.tape, h.output, h.size, fun k hk => h.block k (by omega) (.inl hk)⟩
theorem Keep.qs {B B' : Nat} {e : TypeId} {w w' : World} {v : Value} {xs : List Value} (h : Keep B e w w') (q : Qs w e B' v xs) : Qs w' e B' v xs :=
  q.carry fun k cur hk => by rw [h.block k (Array.getElem?_eq_some_iff.1 hk).1 (.inr ⟨cur, hk⟩)]; exact hk
theorem Keep.alloc (B : Nat) (e : TypeId) (w : World) (ob : Obj) : Keep B e w (w.alloc ob) :=
  ⟨rfl, rfl, rfl, by simp, fun k hk _ => Below.heap_alloc w ob k hk⟩

/-- w' is w but for block c. -/
structure OnlyAt (c : Nat) (w w' : World) : Prop where
  os : w'.os = w.os
  tape : w'.tape = w.tape
  output : w'.output = w.output
  size : w'.heap.size = w.heap.size
  block : ∀ k, k ≠ c → w'.heap[k]? = w.heap[k]?
theorem OnlyAt.refl (c : Nat) (w : World) : OnlyAt c w w := ⟨rfl, rfl, rfl, rfl, fun _ _ => rfl⟩
theorem OnlyAt.setCell (w : World) (a : Addr) (v : Value) : OnlyAt a.block w (w.setCell a v) := ⟨rfl, rfl, rfl, by simp [World.setCell], fun k hk => Below.heap_setCell _ _ _ _ hk⟩
theorem OnlyAt.keep {c B : Nat} {e : TypeId} {w w' : World} (h : OnlyAt c w w') (hB : B ≤ c) (hc : ∀ cur, w.heap[c]? ≠ some (Obj.cells cur e (0, 0))) : Keep B e w w' :=
  ⟨h.os, h.tape, h.output, Nat.le_of_eq h.size.symm, fun k hk hor => h.block k (by rintro rfl; rcases hor with h1 | ⟨cur, h1⟩; · omega
                                                                                   · exact hc cur h1)⟩

def Chan (w : World) (c : Nat) : Prop := ∃ buf u v, w.heap[c]? = some (Obj.chan 1 buf false u v false) ∧ (buf = #[] ∨ buf = #[.agg #[]])
theorem Chan.of_only {w w' : World} {c b : Nat} (h : Chan w c) (o : OnlyAt b w w') (hne : c ≠ b) : Chan w' c := by
  obtain ⟨buf, u, v, h1, h2⟩ := h
  exact ⟨buf, u, v, (o.block c hne).trans h1, h2⟩
theorem Chan.of_grow {w w' : World} {c B : Nat} {e : TypeId} (h : Chan w c) (g : Grow B e w w') : Chan w' c := by
  obtain ⟨buf, u, v, h1, h2⟩ := h
  exact ⟨buf, u, v, g.chan h1, h2⟩
theorem Box.ne_chan {w : World} {b : Nat} {mf mb s : Int} {fr : Value} {n : Int} {c c' : Nat} (h : Box w b mf mb s fr n c) (hc : Chan w c') : c' ≠ b := by
  rintro rfl
  obtain ⟨buf, u, v, h1, _⟩ := hc
  unfold Box at h
  rw [h1] at h
  cases h
theorem Box.of_only {w w' : World} {b k : Nat} {mf mb s : Int} {fr : Value} {n : Int} {c : Nat} (h : Box w b mf mb s fr n c) (o : OnlyAt k w w') (hne : b ≠ k) : Box w' b mf mb s fr n c := by
  unfold Box at h ⊢; rw [o.block b hne]; exact h
theorem Box.of_grow {w w' : World} {b B : Nat} {mf mb s : Int} {fr : Value} {n : Int} {c : Nat} {e : TypeId} (h : Box w b mf mb s fr n c) (g : Grow B e w w') (he : 87 ≠ e) : Box w' b mf mb s fr n c := by
  unfold Box at h ⊢; exact g.cells h he

theorem signal_any (b : Nat) (mf mb s n : Int) (fr : Value) (c : Nat) (w : World) (h : Box w b mf mb s fr n c) (hc : Chan w c) :
    Calls Yba.prog 22 #[.pointer (some ⟨b, 0, none⟩)] w fun e w' => e = .returned (.tuple #[]) ∧ Chan w' c ∧ OnlyAt c w w' := by
  obtain ⟨buf, u, v, h1, rfl | rfl⟩ := hc
  · refine (signal_room b mf mb s n fr c u v w h h1).mono ?_
    rintro e w' ⟨rfl, rfl⟩
    have hlt := (Array.getElem?_eq_some_iff.1 h1).1
    exact ⟨rfl, ⟨_, _, _, heap_setChan w c 1 _ false _ _ false hlt, .inr rfl⟩, ⟨rfl, rfl, rfl, by simp [World.setChan], fun k hk => by simp only [World.setChan]; rw [Array.getElem?_setIfInBounds_ne (Ne.symm hk)]⟩⟩
  · refine (signal_full b mf mb s n fr c u v w h h1).mono ?_
    rintro e w' ⟨rfl, rfl⟩
    exact ⟨rfl, ⟨_, _, _, h1, .inr rfl⟩, OnlyAt.refl _ _⟩

set_option maxRecDepth 100000 in
set_option maxHeartbeats 1600000 in
theorem take_nil (b : Nat) (mf mb n : Int) (p : Option Addr) (k : Nat) (c : Nat) (w : World) (h : Box w b mf mb 0 (.slice p 0 k) n c) :
    Calls Yba.prog 13 #[.pointer (some ⟨b, 0, none⟩)] w fun e w' => e = .returned (.slice none 0 0) ∧ w' = w := by
  have h1 := h.c2
  have f1 := h.fz 2
  have h2 := h.c4
  have HH : Hid (Box w b mf mb 0 (.slice p 0 k) n c) := h
  clear h
  go_enter_defers Yba.func13, Yba.ntmps13
  go_wp2_with (go_at_call 20; refine (lock_free lib ⟨b, 2, none⟩ _ h1 f1).mono ?_; rintro e w' ⟨rfl, rfl⟩)
  refine leaves_cons (f := 21) (args := #[.pointer (some ⟨b, 2, none⟩)]) (by simp) (by simp [go_sem]) ?_
  have hB := HH.out.set2 1
  refine (unlock_deferred lib ⟨b, 2, none⟩ .returning _ hB.c2 (hB.fz 2)).mono ?_
  rintro e u' w'' ⟨rfl, rfl, rfl⟩
  exact ⟨_, results_tmp rfl _ _ _, rfl, HH.out.back _⟩

/-- The box stands, as its functions turn it; w0: the world in which the call began. -/
structure St (w0 w : World) (b c B : Nat) (mf mb s : Int) (fr : Value) (n : Int) : Prop where
  box : Box w b mf mb s fr n c
  chan : Chan w c
  keep : Keep B 3 w0 w
  lb : B ≤ b
  lc : B ≤ c

section
variable {w0 w : World} {b c B : Nat} {mf mb s : Int} {fr : Value} {n : Int}
theorem St.notq (h : St w0 w b c B mf mb s fr n) {e : TypeId} (he : 87 ≠ e) : ∀ cur, w.heap[b]? ≠ some (Obj.cells cur e (0, 0)) := fun cur hc => by
  have hb := h.box
  unfold Box at hb
  rw [hb] at hc
  simp only [Option.some.injEq, Obj.cells.injEq] at hc
  exact he hc.2.1
theorem St.notc (h : St w0 w b c B mf mb s fr n) {e : TypeId} : ∀ cur, w.heap[c]? ≠ some (Obj.cells cur e (0, 0)) := fun cur hc => by
  obtain ⟨buf, u, v, h1, _⟩ := h.chan
  rw [h1] at hc
  cases hc
theorem St.set2 (h : St w0 w b c B mf mb s fr n) (s' : Int) : St w0 (w.setCell ⟨b, 2, none⟩ (.int .i32 s')) b c B mf mb s' fr n :=
  ⟨h.box.set2 s', h.chan.of_only (OnlyAt.setCell _ _ _) (h.box.ne_chan h.chan), h.keep.trans ((OnlyAt.setCell _ _ _).keep h.lb (h.notq (by decide))), h.lb, h.lc⟩
theorem St.set4 (h : St w0 w b c B mf mb s fr n) (fr' : Value) : St w0 (w.setCell ⟨b, 4, none⟩ fr') b c B mf mb s fr' n :=
  ⟨h.box.set4 fr', h.chan.of_only (OnlyAt.setCell _ _ _) (h.box.ne_chan h.chan), h.keep.trans ((OnlyAt.setCell _ _ _).keep h.lb (h.notq (by decide))), h.lb, h.lc⟩
theorem St.set5 (h : St w0 w b c B mf mb s fr n) (n' : Int) : St w0 (w.setCell ⟨b, 5, none⟩ (.int .i64 n')) b c B mf mb s fr n' :=
  ⟨h.box.set5 n', h.chan.of_only (OnlyAt.setCell _ _ _) (h.box.ne_chan h.chan), h.keep.trans ((OnlyAt.setCell _ _ _).keep h.lb (h.notq (by decide))), h.lb, h.lc⟩
theorem St.q (h : St w0 w b c B mf mb s fr n) {v : Value} {xs : List Value} (q : Qs w 37 B v xs) (i : Nat) (u : Value) : Qs (w.setCell ⟨b, i, none⟩ u) 37 B v xs :=
  q.carry fun k cur hk => by
    rw [Below.heap_setCell _ _ _ _ (by rintro rfl; exact h.notq (e := 37) (by decide) cur hk)]
    exact hk
theorem St.sig (h : St w0 w b c B mf mb s fr n) {w' : World} (hc : Chan w' c) (ho : OnlyAt c w w') : St w0 w' b c B mf mb s fr n :=
  ⟨h.box.of_only ho (Ne.symm (h.box.ne_chan h.chan)), hc, h.keep.trans (ho.keep h.lc h.notc), h.lb, h.lc⟩
theorem St.qsig (h : St w0 w b c B mf mb s fr n) {w' : World} (ho : OnlyAt c w w') {v : Value} {xs : List Value} (q : Qs w 37 B v xs) : Qs w' 37 B v xs :=
  q.carry fun k cur hk => by
    rw [ho.block k (by rintro rfl; exact h.notc cur hk)]
    exact hk
theorem St.grow (h : St w0 w b c B mf mb s fr n) {w' : World} (g : Grow B 37 w w') : St w0 w' b c B mf mb s fr n :=
  ⟨h.box.of_grow g (by decide), h.chan.of_grow g, h.keep.trans (.of_grow g (by decide)), h.lb, h.lc⟩
theorem St.alloc (h : St w0 w b c B mf mb s fr n) (ob : Obj) : St w0 (w.alloc ob) b c B mf mb s fr n := by
  refine ⟨h.box.alloc ob, ?_, h.keep.trans (.alloc _ _ _ _), h.lb, h.lc⟩
  obtain ⟨buf, u, v, h1, h2⟩ := h.chan
  exact ⟨buf, u, v, by rw [Below.heap_alloc _ _ _ (Array.getElem?_eq_some_iff.1 h1).1]; exact h1, h2⟩
theorem St.pop (h : St w0 w b c B mf mb s fr n) {g o k cap : Nat} {x : Value} {xs : List Value} (hq : Qs w 37 B (.slice (some ⟨g, o, none⟩) k cap) (x :: xs)) (u : Value) :
    St w0 (w.setCell ⟨g, o, none⟩ u) b c B mf mb s fr n ∧ Qs (w.setCell ⟨g, o, none⟩ u) 37 B (.slice (some ⟨g, o + 1, none⟩) xs.length (cap - 1)) xs ∧ (cap = 1 → Qs (w.setCell ⟨g, o, none⟩ u) 37 B (.slice (some ⟨g, o, none⟩) 0 0) xs) := by
  obtain ⟨g', o', cap', he, _, _, _, _, _, _, _, qs⟩ := hq.head
  simp only [Value.slice.injEq, Option.some.injEq, Addr.mk.injEq, and_true] at he
  obtain ⟨⟨rfl, rfl⟩, rfl, rfl⟩ := he
  obtain ⟨q1, gr⟩ := qs u
  obtain ⟨g', o', cap', he, _, _, _, _, _, qt, qt1, _⟩ := q1.head
  simp only [Value.slice.injEq, Option.some.injEq, Addr.mk.injEq, and_true, true_and] at he
  obtain ⟨⟨rfl, rfl⟩, rfl⟩ := he
  exact ⟨h.grow gr, qt, qt1⟩
theorem St.drew (h : St w0 w b c B mf mb s fr n) (k : Nat) : St w0 (w.drewN k) b c B mf mb s fr n :=
  ⟨h.box, h.chan, h.keep.trans ⟨rfl, rfl, rfl, Nat.le_refl _, fun _ _ _ => rfl⟩, h.lb, h.lc⟩
end

/-- The length of a slice that is not nil. -/
def fl : Value → Option Nat | .slice (some _) m _ => some m | _ => none
theorem fl_some {v : Value} {m : Nat} (h : fl v = some m) : ∃ p q, v = .slice (some p) m q := by
  cases v <;> simp [fl] at h
  rename_i a l k
  cases a <;> simp at h
  subst h
  exact ⟨_, _, rfl⟩

/-- The outbox between two calls: the lengths of its frames. -/
def Out (w : World) (b c B : Nat) (mf mb : Int) (ms : List Nat) : Prop :=
  ∃ fr frs, Box w b mf mb 0 fr (ms.sum : Nat) c ∧ Chan w c ∧ Qs w 37 B fr frs ∧ frs.map fl = ms.map some

theorem wrap_small {x : Int} (h0 : -1000000 ≤ x) (h1 : x ≤ 1000000) : wrap64 x = x := by
  simp only [wrap64]
  omega

set_option maxRecDepth 100000 in
set_option maxHeartbeats 1600000 in
theorem take_one (b g o cap B : Nat) (mf mb n : Int) (p : Addr) (m q : Nat) (c : Nat) (w : World) (h : St w w b c B mf mb 0 (.slice (some ⟨g, o, none⟩) 1 cap) n)
    (hq : Qs w 37 B (.slice (some ⟨g, o, none⟩) 1 cap) [.slice (some p) m q]) :
    Calls Yba.prog 13 #[.pointer (some ⟨b, 0, none⟩)] w fun e w' => e = .returned (.slice (some p) m q) ∧ ∃ fr', St w w' b c B mf mb 0 fr' (wrap64 (n - m)) ∧ Qs w' 37 B fr' [] := by
  obtain ⟨g', o', cap', he, hcap, hBg, hc0, hf0, ⟨cur, hcur⟩, qt, qt1, qs⟩ := hq.head
  simp only [List.length_nil, Nat.zero_add, Value.slice.injEq, Option.some.injEq, Addr.mk.injEq, and_true, true_and] at he hcap
  obtain ⟨⟨rfl, rfl⟩, rfl⟩ := he
  have hgb : g ≠ b := by
    rintro rfl
    exact h.notq (e := 37) (by decide) cur hcur
  have h1 := h.box.c2
  have f1 := h.box.fz 2
  have h2 := h.box.c4
  have f4 := h.box.fz 4
  have h5 := h.box.c5
  have f5 := h.box.fz 5
  have hbg := Ne.symm hgb
  have HH : Hid (St w w b c B mf mb 0 (.slice (some ⟨g, o, none⟩) 1 cap) n) := h
  have HQ : Hid (Qs w 37 B (.slice (some ⟨g, o, none⟩) 1 cap) [.slice (some p) m q]) := hq
  clear h qt1 qt qs hcur hq
  go_enter_defers Yba.func13, Yba.ntmps13
  go_wp2_with (first
    | (go_at_call 20; refine (lock_free lib ⟨b, 2, none⟩ _ h1 f1).mono ?_; rintro e w' ⟨rfl, rfl⟩))
  · have hcap1 : cap = 1 := by assumption
    have a1 := HH.out.set2 1
    obtain ⟨a2, _, qt1⟩ := a1.pop (HH.out.q HQ.out 2 (.int .i32 1)) (.slice none 0 0)
    have q2 := qt1 hcap1
    have a3 := a2.set4 (.slice (some ⟨g, o, none⟩) 0 0)
    have q3 := a2.q q2 4 (.slice (some ⟨g, o, none⟩) 0 0)
    have a4 := a3.set5 (wrap64 (n - m))
    have q4 := a3.q q3 5 (.int .i64 (wrap64 (n - m)))
    refine leaves_cons (f := 21) (args := #[.pointer (some ⟨b, 2, none⟩)]) (by simp) (by simp [go_sem]) ?_
    refine (unlock_deferred lib ⟨b, 2, none⟩ .returning _ a4.box.c2 (a4.box.fz 2)).mono ?_
    rintro e u' w'' ⟨rfl, rfl, rfl⟩
    exact ⟨_, results_tmp rfl _ _ _, rfl, _, a4.set2 0, a4.q q4 2 _⟩
  · have a1 := HH.out.set2 1
    obtain ⟨a2, q2, _⟩ := a1.pop (HH.out.q HQ.out 2 (.int .i32 1)) (.slice none 0 0)
    have a3 := a2.set4 (.slice (some ⟨g, o + 1, none⟩) 0 (cap - 1))
    have q3 := a2.q q2 4 (.slice (some ⟨g, o + 1, none⟩) 0 (cap - 1))
    have a4 := a3.set5 (wrap64 (n - m))
    have q4 := a3.q q3 5 (.int .i64 (wrap64 (n - m)))
    refine leaves_cons (f := 21) (args := #[.pointer (some ⟨b, 2, none⟩)]) (by simp) (by simp [go_sem]) ?_
    refine (unlock_deferred lib ⟨b, 2, none⟩ .returning _ a4.box.c2 (a4.box.fz 2)).mono ?_
    rintro e u' w'' ⟨rfl, rfl, rfl⟩
    exact ⟨_, results_tmp rfl _ _ _, rfl, _, a4.set2 0, a4.q q4 2 _⟩

set_option maxRecDepth 100000 in
set_option maxHeartbeats 1600000 in
theorem take_more (b g o cap B : Nat) (mf mb n : Int) (p : Addr) (m q : Nat) (c : Nat) (x : Value) (xs : List Value) (w : World) (h : St w w b c B mf mb 0 (.slice (some ⟨g, o, none⟩) (xs.length + 2) cap) n)
    (hq : Qs w 37 B (.slice (some ⟨g, o, none⟩) (xs.length + 2) cap) (.slice (some p) m q :: x :: xs)) :
    Calls Yba.prog 13 #[.pointer (some ⟨b, 0, none⟩)] w fun e w' => e = .returned (.slice (some p) m q) ∧ ∃ fr', St w w' b c B mf mb 0 fr' (wrap64 (n - m)) ∧ Qs w' 37 B fr' (x :: xs) := by
  obtain ⟨g', o', cap', he, hcap, hBg, hc0, hf0, ⟨cur, hcur⟩, qt, qt1, qs⟩ := hq.head
  simp only [List.length_cons, Value.slice.injEq, Option.some.injEq, Addr.mk.injEq, and_true, true_and] at he hcap
  obtain ⟨⟨rfl, rfl⟩, rfl⟩ := he
  have hgb : g ≠ b := by
    rintro rfl
    exact h.notq (e := 37) (by decide) cur hcur
  have h1 := h.box.c2
  have f1 := h.box.fz 2
  have h2 := h.box.c4
  have f4 := h.box.fz 4
  have h5 := h.box.c5
  have f5 := h.box.fz 5
  have hbg := Ne.symm hgb
  have HH : Hid (St w w b c B mf mb 0 (.slice (some ⟨g, o, none⟩) (xs.length + 2) cap) n) := h
  have HQ : Hid (Qs w 37 B (.slice (some ⟨g, o, none⟩) (xs.length + 2) cap) (.slice (some p) m q :: x :: xs)) := hq
  clear h qt1 qt qs hcur hq
  obtain ⟨L, hL⟩ : ∃ L, L = xs.length := ⟨_, rfl⟩
  rw [← hL] at HH HQ h2 hcap
  have HL : Hid (L = xs.length) := hL
  clear hL
  have hne : ¬ cap = 1 := by omega
  have a1 := HH.out.set2 1
  obtain ⟨a2, q2, _⟩ := a1.pop (HH.out.q HQ.out 2 (.int .i32 1)) (.slice none 0 0)
  rw [List.length_cons, ← HL.out] at q2
  have a3 := a2.set4 (.slice (some ⟨g, o + 1, none⟩) (L + 1) (cap - 1))
  have q3 := a2.q q2 4 (.slice (some ⟨g, o + 1, none⟩) (L + 1) (cap - 1))
  have a4 := a3.set5 (wrap64 (n - m))
  have q4 := a3.q q3 5 (.int .i64 (wrap64 (n - m)))
  obtain ⟨w4, e4⟩ : ∃ w4, w4 = (((w.setCell ⟨b, 2, none⟩ (.int .i32 1)).setCell ⟨g, o, none⟩ (.slice none 0 0)).setCell ⟨b, 4, none⟩ (.slice (some ⟨g, o + 1, none⟩) (L + 1) (cap - 1))).setCell ⟨b, 5, none⟩ (.int .i64 (wrap64 (n - m))) := ⟨_, rfl⟩
  rw [← e4] at a4 q4
  have A4 : Hid (St w w4 b c B mf mb 1 (.slice (some ⟨g, o + 1, none⟩) (L + 1) (cap - 1)) (wrap64 (n - m))) := a4
  have Q4 : Hid (Qs w4 37 B (.slice (some ⟨g, o + 1, none⟩) (L + 1) (cap - 1)) (x :: xs)) := q4
  have E4 : Hid (w4 = (((w.setCell ⟨b, 2, none⟩ (.int .i32 1)).setCell ⟨g, o, none⟩ (.slice none 0 0)).setCell ⟨b, 4, none⟩ (.slice (some ⟨g, o + 1, none⟩) (L + 1) (cap - 1))).setCell ⟨b, 5, none⟩ (.int .i64 (wrap64 (n - m)))) := e4
  clear a1 a2 q2 a3 q3 a4 q4 e4
  go_enter_defers Yba.func13, Yba.ntmps13
  go_wp2_with (first
    | (go_at_call 20; refine (lock_free lib ⟨b, 2, none⟩ _ h1 f1).mono ?_; rintro e w' ⟨rfl, rfl⟩)
    | (go_at_call 22; rw [← E4.out]; refine (signal_any b mf mb _ _ _ c _ A4.out.box A4.out.chan).mono ?_; rintro e w5 ⟨rfl, hc5, ho5⟩; have HC5 : Hid (Chan w5 c) := hc5; have HO5 : Hid (OnlyAt c w4 w5) := ho5; clear hc5 ho5))
  have a5 := A4.out.sig HC5.out HO5.out
  have q5 := A4.out.qsig HO5.out Q4.out
  refine leaves_cons (f := 21) (args := #[.pointer (some ⟨b, 2, none⟩)]) (by simp) (by simp [go_sem]) ?_
  refine (unlock_deferred lib ⟨b, 2, none⟩ .returning _ a5.box.c2 (a5.box.fz 2)).mono ?_
  rintro e u' w'' ⟨rfl, rfl, rfl⟩
  exact ⟨_, results_tmp rfl _ _ _, rfl, _, a5.set2 0, a5.q q5 2 _⟩

/-- take, some frame there. -/
theorem take_cons (b c B : Nat) (mf mb : Int) (m : Nat) (ms : List Nat) (w : World) (h : Out w b c B mf mb (m :: ms)) (lb : B ≤ b) (lc : B ≤ c) (hs : (m :: ms).sum ≤ 1000000) :
    Calls Yba.prog 13 #[.pointer (some ⟨b, 0, none⟩)] w fun e w' => ∃ p q, e = .returned (.slice (some p) m q) ∧ Out w' b c B mf mb ms ∧ Keep B 3 w w' := by
  obtain ⟨fr, frs, hb, hc, hq, hm⟩ := h
  have st : St w w b c B mf mb 0 fr (((m :: ms).sum : Nat) : Int) := ⟨hb, hc, Keep.refl _ _ _, lb, lc⟩
  have hw : wrap64 ((((m :: ms).sum : Nat) : Int) - m) = ((ms.sum : Nat) : Int) := by
    rw [List.sum_cons] at hs ⊢
    rw [wrap_small (by omega) (by omega)]
    omega
  cases frs with
  | nil => simp at hm
  | cons f frs =>
    simp only [List.map_cons, List.cons.injEq] at hm
    obtain ⟨p, q, rfl⟩ := fl_some hm.1
    obtain ⟨g, o, cap, rfl, _⟩ := hq.head
    cases frs with
    | nil =>
      obtain rfl : ms = [] := by simpa using hm.2.symm
      refine (take_one b g o cap B mf mb _ p m q c w st hq).mono ?_
      rintro e w' ⟨rfl, fr', st', q'⟩
      rw [hw] at st'
      exact ⟨p, q, rfl, ⟨fr', [], st'.box, st'.chan, q', rfl⟩, st'.keep⟩
    | cons x xs =>
      refine (take_more b g o cap B mf mb _ p m q c x xs w st hq).mono ?_
      rintro e w' ⟨rfl, fr', st', q'⟩
      rw [hw] at st'
      exact ⟨p, q, rfl, ⟨fr', x :: xs, st'.box, st'.chan, q', hm.2⟩, st'.keep⟩

theorem take_none (b c B : Nat) (mf mb : Int) (w : World) (h : Out w b c B mf mb []) :
    Calls Yba.prog 13 #[.pointer (some ⟨b, 0, none⟩)] w fun e w' => e = .returned (.slice none 0 0) ∧ w' = w := by
  obtain ⟨fr, frs, hb, hc, hq, hm⟩ := h
  obtain rfl : frs = [] := by simpa using hm
  obtain ⟨p, k, rfl, _⟩ := hq.form
  exact take_nil b mf mb _ p k c w hb

theorem len_out (b c B : Nat) (mf mb : Int) (ms : List Nat) (w : World) (h : Out w b c B mf mb ms) :
    Calls Yba.prog 11 #[.pointer (some ⟨b, 0, none⟩)] w fun e w' => e = .returned (.int .i64 (ms.length : Nat)) ∧ w' = w := by
  obtain ⟨fr, frs, hb, hc, hq, hm⟩ := h
  have hl : frs.length = ms.length := by simpa using congrArg List.length hm
  obtain ⟨p, k, rfl, _⟩ := hq.form
  rw [hl] at hb
  exact len_walk b mf mb _ p _ k c w hb
end Go.Proofs.Ybulkcsck.Ob
