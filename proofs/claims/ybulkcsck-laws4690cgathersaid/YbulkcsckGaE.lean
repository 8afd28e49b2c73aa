/-
  OWN TEXT. LawS4690CGather: one element appended to a row; bytes.Clone; the keys' Verify.
-/
import Derived.Test.YbulkcsckGaD
import Derived.Lib.SliceRun
namespace Go.Proofs.Ybulkcsck.Ga
open Go.RowKit

/-- what append wants to know of an element's type -/
structure Ti (t e : TypeId) (sz bytes : Nat) : Prop where
  ht : Yba.prog.underlying t = some (.slice e)
  hi : ∃ i z, Yba.prog.info? e = some i ∧ i.zero = some z ∧ i.size = sz ∧ i.bytes = bytes ∧ z.cells.size = sz
theorem ti_of {t e : TypeId} {sz bytes : Nat} (ht : Yba.prog.underlying t = some (.slice e)) (h : (Yba.prog.info? e).bind (fun i => i.zero.map fun z => (i.size, i.bytes, z.cells.size)) = some (sz, bytes, sz)) : Ti t e sz bytes := by
  refine ⟨ht, ?_⟩
  obtain ⟨i, hi, h⟩ := Option.bind_eq_some_iff.1 h
  obtain ⟨z, hz, h⟩ := Option.map_eq_some_iff.1 h
  simp only [Prod.mk.injEq] at h
  exact ⟨i, z, hi, hz, h.1, h.2.1, h.2.2⟩
theorem ti3 : Ti 60 3 1 8 := ti_of Yba.underlying60 (by kernel_rfl)
theorem ti37 : Ti 76 37 1 24 := ti_of Yba.underlying76 (by kernel_rfl)
theorem ti26 : Ti 107 26 1 24 := ti_of Yba.underlying107 (by kernel_rfl)
theorem ti119 : Ti 65 119 2 24 := ti_of Yba.underlying65 (by kernel_rfl)
theorem ti125 : Ti 58 125 2 24 := ti_of Yba.underlying58 (by kernel_rfl)
theorem ti39 : Ti 26 39 2 32 := ti_of Yba.underlying26 (by kernel_rfl)

/-- append(v, u): the new element lies in a block of its own -/
theorem Rw.app {ρ : Nat → Nat} {r : Nat} {t e : TypeId} {sz bytes : Nat} (ti : Ti t e sz bytes) (hsz : 0 < sz) (hby : bytes ≤ 100) {w : World} {v : Value} {n : Nat} {xs : List Value} (h : Rw ρ r e sz w v n xs) (us : List Value) (hus : us.length = sz) (h1 : ∀ u ∈ us, u.oneCell' = true) (hn : n ≤ 1000) :
    ∃ p c w' ρ', (Builtin.append_ #[t, t] t #[v, .slice (some ⟨w.heap.size, 0, none⟩) 1 1]).run Yba.prog (w.alloc (.cells us.toArray e)) = .ok (.slice p (n + 1) c) w' ∧ Rw ρ' r e sz w' (.slice p (n + 1) c) (n + 1) (xs ++ us) ∧ Chg ρ ρ' (· = r) w w' := by
  obtain ⟨i, z, hi, hz, hs, hb, hzs⟩ := ti.hi
  have c1 : Chg ρ (rx ρ w (r + 1)) (· = r) w (w.alloc (.cells us.toArray e)) := Chg.alloc w _ _
  have h' : Rw (rx ρ w (r + 1)) r e sz (w.alloc (.cells us.toArray e)) v n xs := h.chg (Chg.alloc (R := fun _ => False) w _ _) (fun q => q)
  obtain ⟨v', w', ρ', hr, hw, hc⟩ := h'.append (P := Yba.prog) t t i z bytes ti.ht hi hz hs hb hzs hsz ⟨w.heap.size, 0, none⟩ 1 us hus (fun j u hj => new_cell w us e _ rfl hj) h1 (by unfold maxLen; omega) (by
    have : (n + 1) * bytes ≤ 1001 * 100 := Nat.mul_le_mul (by omega) hby
    omega)
  obtain ⟨p, c, rfl⟩ := hw.shape
  exact ⟨p, c, w', ρ', hr, hw, c1.trans hc⟩

theorem rw_own {ρ : Nat → Nat} {r base : Nat} {e : TypeId} {sz n : Nat} {w w' : World} {v : Value} {xs : List Value} (h : w'.ownsRow base e sz v n xs) (hb : w.heap.size ≤ base) : Rw (rx ρ w r) r e sz w' v n xs := by
  refine ⟨h.1, ?_⟩
  rcases h.2 with h | ⟨g, cap, cur, q1, q2, q3, q4⟩
  · exact .inl h
  · exact .inr ⟨g, cap, cur, q1, rx_new (Nat.le_trans hb q2), q3, q4⟩

set_option maxRecDepth 100000 in
set_option maxHeartbeats 800000 in
/-- bytes.Clone of a slice that isn't nil -/
theorem clone78 (b c : Nat) (l : List Int) (w : World) (hl : l.length ≤ 1000) (h : ∀ j u, (u8s l)[j]? = some u → w.cell? ⟨b, j, none⟩ = some u) (hb : b < w.heap.size) :
    Calls Yba.prog 78 #[.slice (some ⟨b, 0, none⟩) l.length c] w (OwnP w.heap.size w l.length (u8s l)) := by
  have b1 : Below w.heap.size w (w.alloc (.cells #[] 5)) := (Below.refl _ _).alloc (Nat.le_refl _) _
  have o1 : (w.alloc (.cells #[] 5)).ownsRow w.heap.size 5 1 (.slice (some ⟨w.heap.size, 0, none⟩) 0 0) 0 [] := ⟨rfl, .inr ⟨w.heap.size, 0, #[], rfl, Nat.le_refl _, heap_alloc_new w _, by decide, by decide, rfl, rfl⟩⟩
  obtain ⟨p, c', w', hap, ho, hb'⟩ := app5 o1 b1.size (by decide) 37 ⟨b, 0, none⟩ l.length c l rfl hl (fun j u hj => by
    rw [add_at, Nat.zero_add, b1.cell (p := ⟨b, j, none⟩) hb]
    exact h j u hj)
  rw [Nat.zero_add, List.nil_append] at ho
  rw [Nat.zero_add] at hap
  have HAP : Hid ((Builtin.append_ #[37, 37] 37 #[.slice (some ⟨w.heap.size, 0, none⟩) 0 0, .slice (some ⟨b, 0, none⟩) l.length c]).run Yba.prog (w.alloc (.cells #[] 5)) = .ok (.slice p l.length c') w') := hap
  have fin : Hid (OwnP w.heap.size w l.length (u8s l) (.returned (.slice p l.length c')) w') := ⟨_, rfl, ho, b1.trans hb'⟩
  clear hap ho hb' o1 b1 h hb
  generalize l.length = N at HAP fin ⊢
  have hq : ∀ w, (binOp .eql 37 (.slice (some ⟨b, 0, none⟩) N c) (.slice none 0 0)).run Yba.prog w = .ok (.bool false) w := fun w => Lib.run_eql_slice_nil w 37 5 _ _ _ _ _ Yba.underlying37
  go_enter Yba.func78, Yba.ntmps78
  go_wp2_with (at_builtin; (with_reducible refine wpList_append_any ?_ (.tmp 5) (.tmp 6) 37 37 37 ?_ ?_ (v := .slice (some ⟨w.heap.size, 0, none⟩) 0 0) (y := .slice (some ⟨b, 0, none⟩) N c) ?_ ?_ HAP.out ?_); (first | exact rfl | skip); (first | exact rfl | skip); (first | exact rfl | skip); (first | exact rfl | skip); (first | exact rfl | skip))
  go_ret
  exact fin.out

def i64s (l : List Int) : List Value := l.map (Value.int .i64)
theorem i64s_snoc (l : List Int) (x : Int) : i64s l ++ [.int .i64 x] = i64s (l ++ [x]) := by simp [i64s]

/-- statements, each in a fixed row of role r -/
def Sts (ρ : Nat → Nat) (r : Nat) (w : World) (ss : List Value) (stm : List (List Int)) : Prop := ss.length = stm.length ∧ ∀ (j : Nat) (v : Value) (l : List Int), ss[j]? = some v → stm[j]? = some l → l.length = 71 ∧ Rw ρ r 5 1 w v 71 (u8s l)
theorem Sts.chg {ρ ρ' : Nat → Nat} {R : Nat → Prop} {r : Nat} {w w' : World} {ss : List Value} {stm : List (List Int)} (h : Sts ρ r w ss stm) (k : Chg ρ ρ' R w w') (hr : ¬ R r) : Sts ρ' r w' ss stm :=
  ⟨h.1, fun j v l hv hl => ⟨(h.2 j v l hv hl).1, (h.2 j v l hv hl).2.chg k hr⟩⟩
theorem Sts.snoc {ρ : Nat → Nat} {r : Nat} {w : World} {ss : List Value} {stm : List (List Int)} (h : Sts ρ r w ss stm) {v : Value} {l : List Int} (hl : l.length = 71) (hv : Rw ρ r 5 1 w v 71 (u8s l)) : Sts ρ r w (ss ++ [v]) (stm ++ [l]) := by
  refine ⟨by simp [h.1], fun j u m hu hm => ?_⟩
  by_cases hj : j < ss.length
  · rw [List.getElem?_append_left hj] at hu
    rw [List.getElem?_append_left (by rw [← h.1]; exact hj)] at hm
    exact h.2 j u m hu hm
  · rw [List.getElem?_append_right (by omega)] at hu
    rw [List.getElem?_append_right (by rw [← h.1]; omega), ← h.1] at hm
    cases hk : j - ss.length with
    | zero =>
      rw [hk] at hu hm
      simp at hu hm
      subst hu hm
      exact ⟨hl, hv⟩
    | succ k => rw [hk] at hu; simp at hu

/-- the keys' log -/
def Ky (ρ : Nat → Nat) (kb : Nat) (ans : Bool) (frm : List Int) (stm : List (List Int)) (w : World) : Prop :=
  ∃ vf vn vs ss, Bk ρ 2 w kb #[.nilIface, .bool ans, vf, vn, vs] 98 ∧ Rw ρ 12 3 1 w vf frm.length (i64s frm) ∧ Rw ρ 13 3 1 w vn frm.length (i64s (List.replicate frm.length 1)) ∧ Rw ρ 14 37 1 w vs frm.length ss ∧ Sts ρ 18 w ss stm ∧ frm.length ≤ 1000
theorem Ky.chg {ρ ρ' : Nat → Nat} {R : Nat → Prop} {kb : Nat} {ans : Bool} {frm : List Int} {stm : List (List Int)} {w w' : World} (h : Ky ρ kb ans frm stm w) (k : Chg ρ ρ' R w w') (h2 : ¬ R 2) (h12 : ¬ R 12) (h13 : ¬ R 13) (h14 : ¬ R 14) (h18 : ¬ R 18) : Ky ρ' kb ans frm stm w' := by
  obtain ⟨vf, vn, vs, ss, a, b, c, d, e, f⟩ := h
  exact ⟨vf, vn, vs, ss, a.chg k h2, b.chg k h12, c.chg k h13, d.chg k h14, e.chg k h18, f⟩
end Go.Proofs.Ybulkcsck.Ga
