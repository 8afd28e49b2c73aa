/-
  OWN TEXT. LawS4690CGather: a round of the main loop: the switch and the call
-/
import Derived.Test.YbulkcsckGbB
set_option linter.unusedSimpArgs false
set_option linter.unusedVariables false
namespace Go.Proofs.Ybulkcsck.Ga
open Go.RowKit

theorem ofInt_wrap_i64 (r : BitVec 64) : BitVec.ofInt 64 (IntKind.i64.wrap r.toNat) = r := by
  rw [IntKind.wrap_i64]
  apply BitVec.eq_of_toNat_eq
  rw [BitVec.toNat_ofInt]
  have := r.isLt
  omega
theorem xor1_i64 (x : Int) : bits .xor .i64 x 1 ≠ x := by
  intro h
  have h1 : BitVec.ofInt 64 (bits .xor .i64 x 1) = BitVec.ofInt 64 x := by rw [h]
  have h2 : BitVec.ofInt 64 (bits .xor .i64 x 1) = BitVec.ofInt 64 x ^^^ 1#64 := ofInt_wrap_i64 (BitVec.ofInt 64 x ^^^ BitVec.ofInt 64 1)
  rw [h2] at h1
  have h3 := congrArg (fun z => BitVec.ofInt 64 x ^^^ z) h1
  simp only [← BitVec.xor_assoc, BitVec.xor_self, BitVec.zero_xor] at h3
  exact absurd h3 (by decide)

set_option maxRecDepth 100000 in
set_option maxHeartbeats 1600000 in
theorem p48a (Q : Exit → Act → World → Prop) (a : Act) (L : Lw) (w : World) (b mb : Nat) (d : SD) (F : Fr a L) (h39 : a.tmps[39]? = some (.pointer (some ⟨b, 0, none⟩))) (h41 : a.tmps[41]? = some (.pointer (some ⟨mb, 0, none⟩))) (h42 : a.tmps[42]? = some (.bool true)) (hr : w.rangeAt b 0 d.L) (hm : d.ms % 8 = 0)
    (u : Value) (hu : w.cell? ⟨mb, 1, none⟩ = some u) (hz : w.frozen? ⟨mb, 1, none⟩ = false) (k : ∀ a', Fr a' L → Same [34, 35, 36, 37, 38, 39, 40, 41] a a' → a'.tmps[42]? = some (.bool false) → Q .normal a' (w.setCell ⟨mb, 1, none⟩ (.int .i64 (bits .xor .i64 L.ep 1)))) : (nth 4 b6).wp Yba.prog Q a w := by
  unfold nth b6 nth c6
  simp only [Yba.f6, Option.getD, nB, cA, cB, cIn]
  have hs := F.sz
  obtain ⟨p4, h4⟩ := sl F.s4
  obtain ⟨p5, h5⟩ := sl F.s5
  obtain ⟨p6, h6⟩ := sl F.s6
  obtain ⟨p39, h39'⟩ := sl h39
  obtain ⟨p41, h41'⟩ := sl h41
  obtain ⟨p42, h42'⟩ := sl h42
  have FF : Hid (Fr a L) := F
  have K : Hid _ := k
  clear k F
  have c2 : w.cell? ⟨b, 2, none⟩ = some (.int .u8 d.ms) := hr 2 _ rfl
  clear hr
  have tm : (d.ms : Int).tmod 8 = ((d.ms % 8 : Nat) : Int) := (Int.ofNat_tmod _ _).symm
  have wr8 : IntKind.u8.wrap ((d.ms % 8 : Nat) : Int) = ((d.ms % 8 : Nat) : Int) := wrap_small8 _ (by omega) (by omega)
  rw [hm] at tm wr8
  clear hm
  simp only [Int.ofNat_eq_natCast, Int.natCast_zero, Int.cast_ofNat_Int] at tm wr8
  refine wp_seq_k fun KK hKK => ?_
  have HK : Hid _ := hKK
  clear hKK
  go_wp2
  refine HK.out _ _ ?_
  clear HK KK
  refine wp_block ?_
  refine wp_seq_k fun KK hKK => ?_
  have HK : Hid _ := hKK
  clear hKK
  go_wp2
  refine HK.out _ _ ?_
  clear HK KK
  refine wp_cond_true (by simp [Act.eval, Act.put, hs]) ?_
  go_wp2
  refine K.out _ ?_ ?_ (by simp [hs, h42'])
  · (repeat (refine Fr.set ?_ _ _ (by decide)))
    exact FF.out
  · (repeat (refine Same.set ?_ _ _ (by decide)))
    exact Same.refl _ _
set_option maxRecDepth 100000 in
set_option maxHeartbeats 1600000 in
theorem p48b (Q : Exit → Act → World → Prop) (a : Act) (L : Lw) (w : World) (b mb : Nat) (d : SD) (F : Fr a L) (h39 : a.tmps[39]? = some (.pointer (some ⟨b, 0, none⟩))) (h41 : a.tmps[41]? = some (.pointer (some ⟨mb, 0, none⟩))) (h42 : a.tmps[42]? = some (.bool true)) (hr : w.rangeAt b 0 d.L) (hm : d.ms % 8 = 1)
    (u : Value) (hu : w.cell? ⟨mb, 2, none⟩ = some u) (hz : w.frozen? ⟨mb, 2, none⟩ = false) (k : ∀ a', Fr a' L → Same [34, 35, 36, 37, 38, 39, 40, 41] a a' → a'.tmps[42]? = some (.bool false) → Q .normal a' (w.setCell ⟨mb, 2, none⟩ (.int .i64 (bits .xor .i64 L.cf.vw 1)))) : (nth 4 b6).wp Yba.prog Q a w := by
  unfold nth b6 nth c6
  simp only [Yba.f6, Option.getD, nB, cA, cB, cIn]
  have hs := F.sz
  obtain ⟨p4, h4⟩ := sl F.s4
  obtain ⟨p5, h5⟩ := sl F.s5
  obtain ⟨p6, h6⟩ := sl F.s6
  obtain ⟨p39, h39'⟩ := sl h39
  obtain ⟨p41, h41'⟩ := sl h41
  obtain ⟨p42, h42'⟩ := sl h42
  have FF : Hid (Fr a L) := F
  have K : Hid _ := k
  clear k F
  have c2 : w.cell? ⟨b, 2, none⟩ = some (.int .u8 d.ms) := hr 2 _ rfl
  clear hr
  have tm : (d.ms : Int).tmod 8 = ((d.ms % 8 : Nat) : Int) := (Int.ofNat_tmod _ _).symm
  have wr8 : IntKind.u8.wrap ((d.ms % 8 : Nat) : Int) = ((d.ms % 8 : Nat) : Int) := wrap_small8 _ (by omega) (by omega)
  rw [hm] at tm wr8
  clear hm
  simp only [Int.ofNat_eq_natCast, Int.natCast_zero, Int.cast_ofNat_Int] at tm wr8
  refine wp_seq_k fun KK hKK => ?_
  have HK : Hid _ := hKK
  clear hKK
  go_wp2
  refine HK.out _ _ ?_
  clear HK KK
  refine wp_block ?_
  refine wp_seq_k fun KK hKK => ?_
  have HK : Hid _ := hKK
  clear hKK
  go_wp2
  refine HK.out _ _ ?_
  clear HK KK
  refine wp_cond_false (by simp [Act.eval, Act.put, hs]) ?_
  refine wp_seq_k fun KK hKK => ?_
  have HK : Hid _ := hKK
  clear hKK
  go_wp2
  refine HK.out _ _ ?_
  clear HK KK
  refine wp_cond_true (by simp [Act.eval, Act.put, hs]) ?_
  go_wp2
  refine K.out _ ?_ ?_ (by simp [hs, h42'])
  · (repeat (refine Fr.set ?_ _ _ (by decide)))
    exact FF.out
  · (repeat (refine Same.set ?_ _ _ (by decide)))
    exact Same.refl _ _
set_option maxRecDepth 100000 in
set_option maxHeartbeats 1600000 in
theorem p48c (Q : Exit → Act → World → Prop) (a : Act) (L : Lw) (w : World) (b mb : Nat) (d : SD) (F : Fr a L) (h39 : a.tmps[39]? = some (.pointer (some ⟨b, 0, none⟩))) (h41 : a.tmps[41]? = some (.pointer (some ⟨mb, 0, none⟩))) (h42 : a.tmps[42]? = some (.bool true)) (hr : w.rangeAt b 0 d.L) (hm : d.ms % 8 = 2)
    (u : Value) (hu : w.cell? ⟨mb, 3, none⟩ = some u) (hz : w.frozen? ⟨mb, 3, none⟩ = false) (k : ∀ a', Fr a' L → Same [34, 35, 36, 37, 38, 39, 40, 41] a a' → a'.tmps[42]? = some (.bool false) → Q .normal a' (w.setCell ⟨mb, 3, none⟩ (.int .u8 (IntKind.u8.wrap (L.tg + 1))))) : (nth 4 b6).wp Yba.prog Q a w := by
  unfold nth b6 nth c6
  simp only [Yba.f6, Option.getD, nB, cA, cB, cIn]
  have hs := F.sz
  obtain ⟨p4, h4⟩ := sl F.s4
  obtain ⟨p5, h5⟩ := sl F.s5
  obtain ⟨p6, h6⟩ := sl F.s6
  obtain ⟨p39, h39'⟩ := sl h39
  obtain ⟨p41, h41'⟩ := sl h41
  obtain ⟨p42, h42'⟩ := sl h42
  have FF : Hid (Fr a L) := F
  have K : Hid _ := k
  clear k F
  have c2 : w.cell? ⟨b, 2, none⟩ = some (.int .u8 d.ms) := hr 2 _ rfl
  clear hr
  have tm : (d.ms : Int).tmod 8 = ((d.ms % 8 : Nat) : Int) := (Int.ofNat_tmod _ _).symm
  have wr8 : IntKind.u8.wrap ((d.ms % 8 : Nat) : Int) = ((d.ms % 8 : Nat) : Int) := wrap_small8 _ (by omega) (by omega)
  rw [hm] at tm wr8
  clear hm
  simp only [Int.ofNat_eq_natCast, Int.natCast_zero, Int.cast_ofNat_Int] at tm wr8
  refine wp_seq_k fun KK hKK => ?_
  have HK : Hid _ := hKK
  clear hKK
  go_wp2
  refine HK.out _ _ ?_
  clear HK KK
  refine wp_block ?_
  refine wp_seq_k fun KK hKK => ?_
  have HK : Hid _ := hKK
  clear hKK
  go_wp2
  refine HK.out _ _ ?_
  clear HK KK
  refine wp_cond_false (by simp [Act.eval, Act.put, hs]) ?_
  refine wp_seq_k fun KK hKK => ?_
  have HK : Hid _ := hKK
  clear hKK
  go_wp2
  refine HK.out _ _ ?_
  clear HK KK
  refine wp_cond_false (by simp [Act.eval, Act.put, hs]) ?_
  refine wp_seq_k fun KK hKK => ?_
  have HK : Hid _ := hKK
  clear hKK
  go_wp2
  refine HK.out _ _ ?_
  clear HK KK
  refine wp_cond_true (by simp [Act.eval, Act.put, hs]) ?_
  go_wp2
  refine K.out _ ?_ ?_ (by simp [hs, h42'])
  · (repeat (refine Fr.set ?_ _ _ (by decide)))
    exact FF.out
  · (repeat (refine Same.set ?_ _ _ (by decide)))
    exact Same.refl _ _
set_option maxRecDepth 100000 in
set_option maxHeartbeats 1600000 in
theorem p48d (Q : Exit → Act → World → Prop) (a : Act) (L : Lw) (w : World) (b mb : Nat) (d : SD) (F : Fr a L) (h39 : a.tmps[39]? = some (.pointer (some ⟨b, 0, none⟩))) (h41 : a.tmps[41]? = some (.pointer (some ⟨mb, 0, none⟩))) (h42 : a.tmps[42]? = some (.bool true)) (hr : w.rangeAt b 0 d.L) (hm : 3 ≤ d.ms % 8)
     (k : ∀ a', Fr a' L → Same [34, 35, 36, 37, 38, 39, 40, 41] a a' → a'.tmps[42]? = some (.bool true) → Q .normal a' (w)) : (nth 4 b6).wp Yba.prog Q a w := by
  unfold nth b6 nth c6
  simp only [Yba.f6, Option.getD, nB, cA, cB, cIn]
  have hs := F.sz
  obtain ⟨p4, h4⟩ := sl F.s4
  obtain ⟨p5, h5⟩ := sl F.s5
  obtain ⟨p6, h6⟩ := sl F.s6
  obtain ⟨p39, h39'⟩ := sl h39
  obtain ⟨p41, h41'⟩ := sl h41
  obtain ⟨p42, h42'⟩ := sl h42
  have FF : Hid (Fr a L) := F
  have K : Hid _ := k
  clear k F
  have c2 : w.cell? ⟨b, 2, none⟩ = some (.int .u8 d.ms) := hr 2 _ rfl
  clear hr
  have tm : (d.ms : Int).tmod 8 = ((d.ms % 8 : Nat) : Int) := (Int.ofNat_tmod _ _).symm
  have wr8 : IntKind.u8.wrap ((d.ms % 8 : Nat) : Int) = ((d.ms % 8 : Nat) : Int) := wrap_small8 _ (by omega) (by omega)
  have e0 : (((d.ms % 8 : Nat) : Int) == 0) = false := by simp; omega
  have e1 : (((d.ms % 8 : Nat) : Int) == 1) = false := by simp; omega
  have e2 : (((d.ms % 8 : Nat) : Int) == 2) = false := by simp; omega
  clear hm
  generalize d.ms % 8 = m8 at *
  refine wp_seq_k fun KK hKK => ?_
  have HK : Hid _ := hKK
  clear hKK
  go_wp2
  refine HK.out _ _ ?_
  clear HK KK
  refine wp_block ?_
  refine wp_seq_k fun KK hKK => ?_
  have HK : Hid _ := hKK
  clear hKK
  go_wp2
  refine HK.out _ _ ?_
  clear HK KK
  refine wp_cond_false (by simp [Act.eval, Act.put, hs]) ?_
  refine wp_seq_k fun KK hKK => ?_
  have HK : Hid _ := hKK
  clear hKK
  go_wp2
  refine HK.out _ _ ?_
  clear HK KK
  refine wp_cond_false (by simp [Act.eval, Act.put, hs]) ?_
  refine wp_seq_k fun KK hKK => ?_
  have HK : Hid _ := hKK
  clear hKK
  go_wp2
  refine HK.out _ _ ?_
  clear HK KK
  refine wp_cond_false (by simp [Act.eval, Act.put, hs]) ?_
  refine wp_skip ?_
  simp only [Exit.inBlock]
  refine K.out _ ?_ ?_ (by simp [hs, h42'])
  · (repeat (refine Fr.set ?_ _ _ (by decide)))
    exact FF.out
  · (repeat (refine Same.set ?_ _ _ (by decide)))
    exact Same.refl _ _
set_option maxRecDepth 100000 in
set_option maxHeartbeats 1600000 in
theorem p58 (Q : Exit → Act → World → Prop) (a : Act) (L : Lw) (w : World) (b : Nat) (d : SD) (F : Fr a L) (h39 : a.tmps[39]? = some (.pointer (some ⟨b, 0, none⟩))) (hr : w.rangeAt b 0 d.L) (u : Value) (hu : w.cell? ⟨L.cf.kb, 1, none⟩ = some u) (hz : w.frozen? ⟨L.cf.kb, 1, none⟩ = false)
    (k : ∀ a', Fr a' L → Same [34, 35, 36, 37, 38, 39, 40, 41, 42] a a' → Q .normal a' (w.setCell ⟨L.cf.kb, 1, none⟩ (.bool d.ok))) : (nth 5 b6).wp Yba.prog Q a w := by
  unfold nth b6 nth c6
  simp only [Yba.f6, Option.getD, nB, cA, cB, cIn]
  have hs := F.sz
  obtain ⟨p25, h25⟩ := sl F.s25
  obtain ⟨p39, h39'⟩ := sl h39
  have FF : Hid (Fr a L) := F
  have K : Hid _ := k
  clear k F
  have c3 : w.cell? ⟨b, 3, none⟩ = some (.bool d.ok) := hr 3 _ rfl
  clear hr
  go_wp2
  refine K.out _ ?_ ?_
  · (repeat (refine Fr.set ?_ _ _ (by decide)))
    exact FF.out
  · (repeat (refine Same.set ?_ _ _ (by decide)))
    exact Same.refl _ _
set_option maxRecDepth 100000 in
set_option maxHeartbeats 1600000 in
theorem p59 (Q : Exit → Act → World → Prop) (a : Act) (L : Lw) (w : World) (mb fr : Nat) (R : World → Prop) (F : Fr a L) (h40 : a.tmps[40]? = some (.int .i64 (fr : Nat))) (h41 : a.tmps[41]? = some (.pointer (some ⟨mb, 0, none⟩)))
    (hc : Calls Yba.prog 14 #[.pointer (some ⟨L.cf.rb, 0, none⟩), .int .i64 (fr : Int), .pointer (some ⟨mb, 0, none⟩)] w fun e w' => e = .returned (.tuple #[]) ∧ R w')
    (k : ∀ a' w', R w' → Fr a' L → Same [34, 35, 36, 37, 38, 39, 40, 41, 42] a a' → Q .normal a' w') : (nth 6 b6).wp Yba.prog Q a w := by
  unfold nth b6 nth c6
  simp only [Yba.f6, Option.getD, nB, cA, cB, cIn]
  have hs := F.sz
  obtain ⟨p26, h26⟩ := sl F.s26
  obtain ⟨p40, h40'⟩ := sl h40
  obtain ⟨p41, h41'⟩ := sl h41
  have FF : Hid (Fr a L) := F
  have K : Hid _ := k
  clear k F
  have HC : Hid (Calls Yba.prog 14 #[.pointer (some ⟨L.cf.rb, 0, none⟩), .int .i64 (fr : Int), .pointer (some ⟨mb, 0, none⟩)] w fun e w' => e = .returned (.tuple #[]) ∧ R w') := hc
  clear hc
  refine wp_region_lit ?_
  iterate 3 (refine wpList_val rfl _ (by simp [go_sem, execOp, Act.eval, Act.put, hs, h26, h40', h41']; first | done | rfl) ?_)
  refine wpList_plain rfl fun _ hK => ?_
  refine Rt.wp_call (vs := #[.pointer (some ⟨L.cf.rb, 0, none⟩), .int .i64 (fr : Int), .pointer (some ⟨mb, 0, none⟩)]) rfl ?_ (Yba.call14 _) ?_
  · simp [Act.eval, Act.put, hs]
  refine HC.out.mono ?_
  rintro e w' ⟨rfl, hR⟩
  refine ⟨_, rfl, hK _ _ ?_⟩
  simp only [Act.put]
  go_wp2
  refine K.out _ _ hR ?_ ?_
  · (repeat (refine Fr.set ?_ _ _ (by decide)))
    exact FF.out
  · (repeat (refine Same.set ?_ _ _ (by decide)))
    exact Same.refl _ _
end Go.Proofs.Ybulkcsck.Ga
