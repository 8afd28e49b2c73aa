/-
  OWN TEXT. Hook.equal, one way.
-/
import Derived.Test.YbulkcsgeC
namespace Go.Proofs.Ybulkcsge
open Go.RowKit

set_option maxRecDepth 100000 in
set_option maxHeartbeats 8000000 in
theorem hook_e (b b' : Nat) (p p' : ByteArray) (va ve va' ve' : Value) (tp tp' : Option Addr) (n m n' m' : Bool) (la le la' le' : List ByteArray) (x x' : Option Int) (c : Bool) (w : World)
    (h : Hk w b p va ve tp) (h' : Hk w b' p' va' ve' tp') (ha : SV w va n la) (he : SV w ve m le) (ha' : SV w va' n' la') (he' : SV w ve' m' le') (ht : TV w tp x) (ht' : TV w tp' x') (hc : PE w tp tp' c)
    (l1 : la.length ≤ 2000) (l2 : le.length ≤ 2000) (hp : p = p') (hA : n = n' ∧ la = la') (hE : ¬ (m = m' ∧ le = le')) :
    Calls Yba.prog 5 #[.pointer (some ⟨b, 0, none⟩), .pointer (some ⟨b', 0, none⟩)] w (Ans w (p = p' ∧ (n = n' ∧ la = la') ∧ (m = m' ∧ le = le') ∧ x = x')) := by
  go_enter Yba.func5, Yba.ntmps5
  go_upto_region 2 with fail
  go_cut [6] from 7 to 44 (fun s6 wx => s6 = .bool (decide (x = x')) ∧ Below w.heap.size w wx)
  case first =>
    have q3 := h.c3
    have q3' := h'.c3
    have qe := hc.2 w (Below.refl _ _)
    have qk : ∀ k, (binOp .eql 23 (.pointer tp) (.pointer tp')).run Yba.prog (w.drewN k) = .ok (.bool c) (w.drewN k) := fun k => hc.2 _ (drewN_below (Below.refl _ _) k)
    have qc : Hid (c = true → tp = tp') := hc.1
    clear hc h h' ha he ha' he' l1 l2 hp hA hE
    cases c with
    | true =>
      obtain rfl := qc.out rfl
      have hx : x = x' := by
        cases ht with
        | none => cases ht'; rfl
        | some b o x h hb =>
          cases ht' with
          | some _ _ y h' _ =>
            rw [h] at h'
            simp at h'
            rw [h']
      subst hx
      have hx : Hid (Value.bool true = .bool (decide (x = x))) := by unfold Hid; simp
      clear ht ht' qc
      go_quiet (fail)
      go_wp2
      go_meet
      exact ⟨hx.out, drewN_below (Below.refl _ _) _⟩
    | false =>
      clear qc
      cases ht with
      | none =>
        have hx : Hid (Value.bool false = .bool (decide (none = x'))) ∨ Hid (tp' = none) := by
          cases ht' with
          | none => exact .inr rfl
          | some => exact .inl rfl
        rcases hx with hx | hx
        · clear ht'
          go_quiet (fail)
          go_wp2
          go_meet
          exact ⟨hx.out, drewN_below (Below.refl _ _) _⟩
        · exfalso
          have e : tp' = none := hx
          rw [e] at qe
          rw [run_eql_pointer_nil w 23 none (by kernel_rfl)] at qe
          cases qe
      | some b1 o1 x1 k1 l1 =>
        cases ht' with
        | none =>
          have hx : Hid (Value.bool false = .bool (decide (some x1 = none))) := rfl
          go_quiet (fail)
          go_wp2
          go_meet
          exact ⟨hx.out, drewN_below (Below.refl _ _) _⟩
        | some b2 o2 x2 k2 l2 =>
          by_cases hxy : x1 = x2
          · subst hxy
            have hx : Hid (Value.bool true = .bool (decide (some x1 = some x1))) := by unfold Hid; simp
            go_quiet (fail)
            go_wp2
            go_meet
            exact ⟨hx.out, drewN_below (Below.refl _ _) _⟩
          · have hx : Hid (Value.bool false = .bool (decide (some x1 = some x2))) := by unfold Hid; simp [hxy]
            have hxy' : (x1 == x2) = false := by simp [hxy]
            go_quiet (fail)
            go_wp2
            go_meet
            exact ⟨hx.out, drewN_below (Below.refl _ _) _⟩
  case rest =>
    obtain ⟨rfl, hbx⟩ := hcut
    clear ht ht' hc
    have K := h.below hbx
    have K' := h'.below hbx
    have A := ha.below hbx
    have A' := ha'.below hbx
    have E := he.below hbx
    have E' := he'.below hbx
    clear h h' ha ha' he he'
    have HB : Hid (Below w.heap.size w wc) := hbx
    have HS : Hid (w.heap.size ≤ wc.heap.size) := hbx.size
    clear hbx
    have fin : Hid (∀ w2, Below wc.heap.size wc w2 → Below w.heap.size w w2) := fun w2 h2 => HB.out.trans (h2.mono HS.out)
    clear HB HS
    have kp : Hid (∀ w2, Below wc.heap.size wc w2 → Six wc b b' p p' va va' ve ve' w2) := fun w2 h2 =>
      ⟨(K.below h2).c0, (K'.below h2).c0, (K.below h2).c1, (K'.below h2).c1, (K.below h2).c2, (K'.below h2).c2, h2⟩
    obtain ⟨y0, y0', y1, y1', y2, y2', -⟩ := kp.out wc (Below.refl _ _)
    have fa : Hid (∀ w2, Below wc.heap.size wc w2 → ((n = n' ∧ la = la') → Calls Yba.prog 8 #[va, va'] w2 fun e w' => e = .returned (.bool true) ∧ Below wc.heap.size wc w') ∧ (¬ (n = n' ∧ la = la') → Calls Yba.prog 8 #[va, va'] w2 fun e w' => e = .returned (.bool false) ∧ Below wc.heap.size wc w')) := fun w2 h2 =>
      ⟨fun q => (same_yes (A.below h2) (A'.below h2) l1 q).mono fun e w' ⟨x, y⟩ => ⟨x, h2.trans (y.mono h2.size)⟩, fun q => (same_no (A.below h2) (A'.below h2) l1 q).mono fun e w' ⟨x, y⟩ => ⟨x, h2.trans (y.mono h2.size)⟩⟩
    have fe : Hid (∀ w2, Below wc.heap.size wc w2 → ((m = m' ∧ le = le') → Calls Yba.prog 8 #[ve, ve'] w2 fun e w' => e = .returned (.bool true) ∧ Below wc.heap.size wc w') ∧ (¬ (m = m' ∧ le = le') → Calls Yba.prog 8 #[ve, ve'] w2 fun e w' => e = .returned (.bool false) ∧ Below wc.heap.size wc w')) := fun w2 h2 =>
      ⟨fun q => (same_yes (E.below h2) (E'.below h2) l2 q).mono fun e w' ⟨x, y⟩ => ⟨x, h2.trans (y.mono h2.size)⟩, fun q => (same_no (E.below h2) (E'.below h2) l2 q).mono fun e w' ⟨x, y⟩ => ⟨x, h2.trans (y.mono h2.size)⟩⟩
    clear A A' E E' K K' l1 l2
    subst hp
    have hans : Hid (¬ (p = p ∧ (n = n' ∧ la = la') ∧ (m = m' ∧ le = le') ∧ x = x')) := fun q => hE q.2.2.1
    have hA' : Hid (n = n' ∧ la = la') := hA
    have hE' : Hid (¬ (m = m' ∧ le = le')) := hE
    clear hA hE
    go_wp2_with fail
    refine Rt.regionL (Six wc b b' p p va va' ve ve') [some (.pointer (some ⟨b, 0, none⟩)), some (.pointer (some ⟨b, 0, none⟩)), some (.pointer (some ⟨b, 0, none⟩)), some (.string p), some (.pointer (some ⟨b', 0, none⟩)), some (.pointer (some ⟨b', 0, none⟩)), some (.pointer (some ⟨b', 0, none⟩)), some (.string p), some (.bool true), some (.bool true), some (.func (.func 8) #[] #[]), some (.pointer (some ⟨b, 0, none⟩)), some (.pointer (some ⟨b, 0, none⟩)), some (.pointer (some ⟨b, 1, none⟩)), some va, some (.pointer (some ⟨b', 0, none⟩)), some (.pointer (some ⟨b', 0, none⟩)), some (.pointer (some ⟨b', 1, none⟩)), some va'] 18
      (by kernel_rfl) (by kernel_rfl) (by kernel_rfl) (by kernel_rfl) (by kernel_rfl) (kp.out _ (Below.refl _ _).drew) ?_ ?_
    · skip
      refine Rt.yc ?_ ?_
      · exact Rt.y_move (by kernel_rfl) rfl (by kernel_rfl)
      refine Rt.yc ?_ ?_
      · exact Rt.y_nil (by kernel_rfl) rfl (by kernel_rfl)
      refine Rt.yc ?_ ?_
      · exact Rt.y_field 0 0 (by kernel_rfl) rfl (by kernel_rfl) Yba.underlying25 rfl (by kernel_rfl) rfl
      refine Rt.yc ?_ ?_
      · exact Rt.y_load b 0 (by kernel_rfl) rfl (by kernel_rfl) Yba.isAgg9 (fun w h => h.c0)
      refine Rt.yc ?_ ?_
      · exact Rt.y_move (by kernel_rfl) rfl (by kernel_rfl)
      refine Rt.yc ?_ ?_
      · exact Rt.y_nil (by kernel_rfl) rfl (by kernel_rfl)
      refine Rt.yc ?_ ?_
      · exact Rt.y_field 0 0 (by kernel_rfl) rfl (by kernel_rfl) Yba.underlying25 rfl (by kernel_rfl) rfl
      refine Rt.yc ?_ ?_
      · exact Rt.y_load b' 0 (by kernel_rfl) rfl (by kernel_rfl) Yba.isAgg9 (fun w h => h.d0)
      refine Rt.yc ?_ ?_
      · exact Rt.y_bin (by kernel_rfl) rfl (eqSelf p)
      refine Rt.yc ?_ ?_
      · exact Rt.y_move (by kernel_rfl) rfl (by kernel_rfl)
      refine Rt.yc ?_ ?_
      · exact Rt.y_move (by kernel_rfl) rfl (by kernel_rfl)
      refine Rt.yc ?_ ?_
      · exact Rt.y_move (by kernel_rfl) rfl (by kernel_rfl)
      refine Rt.yc ?_ ?_
      · exact Rt.y_nil (by kernel_rfl) rfl (by kernel_rfl)
      refine Rt.yc ?_ ?_
      · exact Rt.y_field 0 0 (by kernel_rfl) rfl (by kernel_rfl) Yba.underlying25 rfl (by kernel_rfl) rfl
      refine Rt.yc ?_ ?_
      · exact Rt.y_load b 1 (by kernel_rfl) rfl (by kernel_rfl) Yba.isAgg22 (fun w h => h.c1)
      refine Rt.yc ?_ ?_
      · exact Rt.y_move (by kernel_rfl) rfl (by kernel_rfl)
      refine Rt.yc ?_ ?_
      · exact Rt.y_nil (by kernel_rfl) rfl (by kernel_rfl)
      refine Rt.yc ?_ ?_
      · exact Rt.y_field 0 0 (by kernel_rfl) rfl (by kernel_rfl) Yba.underlying25 rfl (by kernel_rfl) rfl
      refine Rt.yc ?_ ?_
      · exact Rt.y_load b' 1 (by kernel_rfl) rfl (by kernel_rfl) Yba.isAgg22 (fun w h => h.d1)
      exact Rt.ye
    refine Rt.oneL 19 (by kernel_rfl) rfl (by kernel_rfl) ?_
    with_reducible refine wp_callv (f := 8) (vs := #[va, va']) rfl ?_ ?_ (Yba.call8 _) ?_
    · kernel_rfl
    · kernel_rfl
    refine ((fa.out _ ((Below.refl _ _).drew)).1 hA'.out).mono ?_
    rintro e w2 ⟨rfl, hb2⟩
    refine ⟨_, rfl, kp.out _ hb2, ?_⟩
    refine Rt.moreL [none, none, none, none, none, none, none, none, none, none, none, none, none, none, none, none, none, none, none, none, some (.bool true), some (.bool true), some (.func (.func 8) #[] #[]), some (.pointer (some ⟨b, 0, none⟩)), some (.pointer (some ⟨b, 0, none⟩)), some (.pointer (some ⟨b, 2, none⟩)), some ve, some (.pointer (some ⟨b', 0, none⟩)), some (.pointer (some ⟨b', 0, none⟩)), some (.pointer (some ⟨b', 2, none⟩)), some ve'] 6 (by kernel_rfl) (by kernel_rfl) (by kernel_rfl) (by kernel_rfl) (kp.out _ hb2) ?_ ?_
    · skip
      refine Rt.yn ?_
      refine Rt.yn ?_
      refine Rt.yn ?_
      refine Rt.yn ?_
      refine Rt.yn ?_
      refine Rt.yn ?_
      refine Rt.yn ?_
      refine Rt.yn ?_
      refine Rt.yn ?_
      refine Rt.yn ?_
      refine Rt.yn ?_
      refine Rt.yn ?_
      refine Rt.yn ?_
      refine Rt.yn ?_
      refine Rt.yn ?_
      refine Rt.yn ?_
      refine Rt.yn ?_
      refine Rt.yn ?_
      refine Rt.yn ?_
      refine Rt.yn ?_
      refine Rt.yc ?_ ?_
      · exact Rt.y_pick true (by kernel_rfl) rfl (by kernel_rfl) (by kernel_rfl)
      refine Rt.yc ?_ ?_
      · exact Rt.y_move (by kernel_rfl) rfl (by kernel_rfl)
      refine Rt.yc ?_ ?_
      · exact Rt.y_move (by kernel_rfl) rfl (by kernel_rfl)
      refine Rt.yc ?_ ?_
      · exact Rt.y_move (by kernel_rfl) rfl (by kernel_rfl)
      refine Rt.yc ?_ ?_
      · exact Rt.y_nil (by kernel_rfl) rfl (by kernel_rfl)
      refine Rt.yc ?_ ?_
      · exact Rt.y_field 0 0 (by kernel_rfl) rfl (by kernel_rfl) Yba.underlying25 rfl (by kernel_rfl) rfl
      refine Rt.yc ?_ ?_
      · exact Rt.y_load b 2 (by kernel_rfl) rfl (by kernel_rfl) Yba.isAgg22 (fun w h => h.c2)
      refine Rt.yc ?_ ?_
      · exact Rt.y_move (by kernel_rfl) rfl (by kernel_rfl)
      refine Rt.yc ?_ ?_
      · exact Rt.y_nil (by kernel_rfl) rfl (by kernel_rfl)
      refine Rt.yc ?_ ?_
      · exact Rt.y_field 0 0 (by kernel_rfl) rfl (by kernel_rfl) Yba.underlying25 rfl (by kernel_rfl) rfl
      refine Rt.yc ?_ ?_
      · exact Rt.y_load b' 2 (by kernel_rfl) rfl (by kernel_rfl) Yba.isAgg22 (fun w h => h.d2)
      exact Rt.ye
    refine Rt.oneL 31 (by kernel_rfl) rfl (by kernel_rfl) ?_
    with_reducible refine wp_callv (f := 8) (vs := #[ve, ve']) rfl ?_ ?_ (Yba.call8 _) ?_
    · kernel_rfl
    · kernel_rfl
    refine ((fe.out _ hb2).2 hE'.out).mono ?_
    rintro e w3 ⟨rfl, hb3⟩
    refine ⟨_, rfl, kp.out _ hb3, ?_⟩
    refine Rt.moreL [none, none, none, none, none, none, none, none, none, none, none, none, none, none, none, none, none, none, none, none, none, none, none, none, none, none, none, none, none, none, none, none, some (.bool false), some (.bool false), some undef, some (.bool false), some (.bool false)] 0 (by kernel_rfl) (by kernel_rfl) (by kernel_rfl) (by kernel_rfl) (kp.out _ hb3) ?_ ?_
    · skip
      refine Rt.yn ?_
      refine Rt.yn ?_
      refine Rt.yn ?_
      refine Rt.yn ?_
      refine Rt.yn ?_
      refine Rt.yn ?_
      refine Rt.yn ?_
      refine Rt.yn ?_
      refine Rt.yn ?_
      refine Rt.yn ?_
      refine Rt.yn ?_
      refine Rt.yn ?_
      refine Rt.yn ?_
      refine Rt.yn ?_
      refine Rt.yn ?_
      refine Rt.yn ?_
      refine Rt.yn ?_
      refine Rt.yn ?_
      refine Rt.yn ?_
      refine Rt.yn ?_
      refine Rt.yn ?_
      refine Rt.yn ?_
      refine Rt.yn ?_
      refine Rt.yn ?_
      refine Rt.yn ?_
      refine Rt.yn ?_
      refine Rt.yn ?_
      refine Rt.yn ?_
      refine Rt.yn ?_
      refine Rt.yn ?_
      refine Rt.yn ?_
      refine Rt.yn ?_
      refine Rt.yc ?_ ?_
      · exact Rt.y_pick true (by kernel_rfl) rfl (by kernel_rfl) (by kernel_rfl)
      refine Rt.yc ?_ ?_
      · exact Rt.y_move (by kernel_rfl) rfl (by kernel_rfl)
      refine Rt.yc ?_ ?_
      · exact Rt.y_off (by kernel_rfl)
      refine Rt.yc ?_ ?_
      · exact Rt.y_pick false (by kernel_rfl) rfl (by kernel_rfl) (by kernel_rfl)
      refine Rt.yc ?_ ?_
      · exact Rt.y_assign (by kernel_rfl) rfl (by kernel_rfl)
      exact Rt.ye
    with_reducible refine Rt.done ?_ ?_ 0
    · kernel_rfl
    simp only [Rt.putL, Act.put, List.setIfInBounds_toArray, List.set_cons_succ, List.set_cons_zero]
    go_wp2
    go_ret
    exact Ans.no hans.out (fin.out _ hb3)
end Go.Proofs.Ybulkcsge
