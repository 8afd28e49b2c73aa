/-
  OWN TEXT. LawS4690CGather: the set-up in one contract.
-/
import Derived.Test.YbulkcsckGbR
set_option linter.unusedVariables false
namespace Go.Proofs.Ybulkcsck.Ga
open Go.RowKit

/-- what the set-up reckons from the arguments -/
structure Ar where
  md : Nat
  tg : Nat
  ep : Int
  vw : Int
  ps : Option Addr
  ln : Nat
  cp : Nat
  n : Nat
  f : Nat
  id : Nat
  y : Nat
  wi : Int
  lv : Bool
structure P1 (a : Act) (A : Ar) : Prop where
  F : Fz a
  s3 : a.tmps[3]? = some (.int .u8 (A.md : Nat))
  s4 : a.tmps[4]? = some (.int .u8 (A.tg : Nat))
  s5 : a.tmps[5]? = some (.int .i64 A.ep)
  s6 : a.tmps[6]? = some (.int .i64 A.vw)
  s7 : a.tmps[7]? = some (.slice A.ps A.ln A.cp)
  s17 : a.tmps[17]? = some (.int .i64 (A.f : Nat))
  s18 : a.tmps[18]? = some (.int .i64 (A.n : Nat))
  s19 : a.tmps[19]? = some (.int .i64 (A.id : Nat))
  s20 : a.tmps[20]? = some (.int .u8 (A.y : Nat))
  s21 : a.tmps[21]? = some (.int .i64 A.wi)
  s22 : a.tmps[22]? = some (.bool A.lv)
theorem P1.go {a a' : Act} {A : Ar} (h : P1 a A) (F : Fz a') (S : Same [0, 1, 2, 3, 4, 5, 6, 7, 17, 18, 19, 20, 21, 22] a a') : P1 a' A :=
  ⟨F, (S 3 (by decide)).trans h.s3, (S 4 (by decide)).trans h.s4, (S 5 (by decide)).trans h.s5, (S 6 (by decide)).trans h.s6, (S 7 (by decide)).trans h.s7, (S 17 (by decide)).trans h.s17, (S 18 (by decide)).trans h.s18, (S 19 (by decide)).trans h.s19, (S 20 (by decide)).trans h.s20, (S 21 (by decide)).trans h.s21, (S 22 (by decide)).trans h.s22⟩
structure P2 (a : Act) (A : Ar) (bb kb rb : Nat) (pb : Option Addr) : Prop where
  p : P1 a A
  s23 : a.tmps[23]? = some (.pointer (some ⟨bb, 0, none⟩))
  s24 : a.tmps[24]? = some (.pointer pb)
  s25 : a.tmps[25]? = some (.pointer (some ⟨kb, 0, none⟩))
  s26 : a.tmps[26]? = some (.pointer (some ⟨rb, 0, none⟩))
theorem P2.go {a a' : Act} {A : Ar} {bb kb rb : Nat} {pb : Option Addr} (h : P2 a A bb kb rb pb) (F : Fz a') (S : Same [0, 1, 2, 3, 4, 5, 6, 7, 17, 18, 19, 20, 21, 22, 23, 24, 25, 26] a a') : P2 a' A bb kb rb pb :=
  ⟨h.p.go F (S.sub (by decide)), (S 23 (by decide)).trans h.s23, (S 24 (by decide)).trans h.s24, (S 25 (by decide)).trans h.s25, (S 26 (by decide)).trans h.s26⟩

/-- the arguments are read -/
theorem setupA (Q : Exit → Act → World → Prop) (a : Act) (w : World) (fs ex ids md tg : Nat) (hmd : md ≤ 255) (hid : ids ≤ 255) (ep vw : Int) (ps : Option Addr) (ln cp : Nat) (F : Fz a) (h0 : a.tmps[0]? = some (.int .u8 (fs : Nat))) (h1 : a.tmps[1]? = some (.int .u8 (ex : Nat))) (h2 : a.tmps[2]? = some (.int .u8 (ids : Nat))) (h3 : a.tmps[3]? = some (.int .u8 (md : Nat))) (h4 : a.tmps[4]? = some (.int .u8 (tg : Nat)))
    (h5 : a.tmps[5]? = some (.int .i64 ep)) (h6 : a.tmps[6]? = some (.int .i64 vw)) (h7 : a.tmps[7]? = some (.slice ps ln cp))
    (kS : ¬ ln ≤ 300 → ∀ a', a'.defers = [] → a'.tmps[16]? = some (.bool true) → Q .ret a' w)
    (kR : ln ≤ 300 → ∀ a' A, P1 a' A → A.md = md → A.tg = tg → A.ep = ep → A.vw = vw → A.ps = ps → A.ln = ln → A.cp = cp → 0 < A.n → A.n ≤ 100 → A.f ≤ A.n → (nB 9 c6).wp Yba.prog Q a' w) : c6.wp Yba.prog Q a w := by
  have e : c6 = .seq (nth 0 c6) (.seq (nth 1 c6) (.seq (nth 2 c6) (.seq (nth 3 c6) (.seq (nth 4 c6) (.seq (nth 5 c6) (.seq (nth 6 c6) (.seq (nth 7 c6) (.seq (nth 8 c6) (nB 9 c6))))))))) := rfl
  rw [e]
  refine wp_seq (s0 _ a w F fun a1 F1 S1 => ?_)
  by_cases hln : ln ≤ 300
  · refine wp_seq (s1n _ a1 w ps ln cp ((S1 7 (by decide)).trans h7) hln F1 fun a2 F2 S2 => ?_)
    have T2 := S1.trans S2
    refine wp_seq (s3 _ a2 w fs ((T2 0 (by decide)).trans h0) F2 fun a3 F3 S3 q17 => ?_)
    have T3 := T2.trans S3
    refine wp_seq (s4 _ a3 w ex (fs % 3) (by omega) ((T3 1 (by decide)).trans h1) q17 F3 fun a4 F4 S4 q18 => ?_)
    have T4 := T3.trans (S4.sub (by decide))
    refine wp_seq (s5 _ a4 w ids (3 * (fs % 3) + 1 + ex % 3) (by omega) ((T4 2 (by decide)).trans h2) hid q18 F4 fun a5 F5 S5 q19 => ?_)
    have T5 := T4.trans (S5.sub (by decide))
    refine wp_seq (s6 _ a5 w md ((T5 3 (by decide)).trans h3) F5 fun a6 F6 S6 q20 => ?_)
    have T6 := T5.trans (S6.sub (by decide))
    refine wp_seq (s7 _ a6 w vw ((T6 6 (by decide)).trans h6) F6 fun a7 F7 S7 q21 => ?_)
    have T7 := T6.trans (S7.sub (by decide))
    refine wp_seq (s8 _ a7 w F7 fun a8 F8 S8 q22 => ?_)
    have T8 := T7.trans (S8.sub (by decide))
    refine wp_seq (s9 _ a8 w (md % 16) vw ((S8 20 (by decide)).trans ((S7 20 (by decide)).trans q20)) ((T8 6 (by decide)).trans h6) ((S8 21 (by decide)).trans q21) q22 F8 fun a9 wi lv F9 S9 p21 p22 => ?_)
    have T9 := T8.trans (S9.sub (by decide))
    have U : Same [17, 18, 19, 20] a6 a9 := (S7.sub (by decide)).trans ((S8.sub (by decide)).trans (S9.sub (by decide)))
    refine kR hln a9 ⟨md, tg, ep, vw, ps, ln, cp, 3 * (fs % 3) + 1 + ex % 3, fs % 3, ids % (3 * (fs % 3) + 1 + ex % 3), md % 16, wi, lv⟩ ⟨F9, (T9 3 (by decide)).trans h3, (T9 4 (by decide)).trans h4, (T9 5 (by decide)).trans h5, (T9 6 (by decide)).trans h6, (T9 7 (by decide)).trans h7, (U 17 (by decide)).trans ((S6 17 (by decide)).trans ((S5 17 (by decide)).trans ((S4 17 (by decide)).trans q17))), (U 18 (by decide)).trans ((S6 18 (by decide)).trans ((S5 18 (by decide)).trans q18)), (U 19 (by decide)).trans ((S6 19 (by decide)).trans q19), (U 20 (by decide)).trans q20, p21, p22⟩ rfl rfl rfl rfl rfl rfl rfl ?_ ?_ ?_
    · show 0 < 3 * (fs % 3) + 1 + ex % 3; omega
    · show 3 * (fs % 3) + 1 + ex % 3 ≤ 100; omega
    · show fs % 3 ≤ 3 * (fs % 3) + 1 + ex % 3; omega
  · exact wp_seq (s1y _ a1 w ps ln cp ((S1 7 (by decide)).trans h7) hln F1 fun a2 d2 q => kS hln a2 d2 q)

/-- the blocks at the start -/
structure Bs (ρ : Nat → Nat) (w0 w : World) (bb kb : Nat) (pb : Option Addr) (ep vw : Int) (bid : List Int) : Prop where
  i0 : In0 ρ w0 w
  bd : Bk ρ 20 w bb (u8s bid).toArray 30
  pb : PB ρ pb ep vw bid w
  ky : Bk ρ 2 w kb #[.nilIface, .bool false, .slice none 0 0, .slice none 0 0, .slice none 0 0] 98
theorem Bs.chg {ρ ρ' : Nat → Nat} {R : Nat → Prop} {w0 w w' : World} {bb kb : Nat} {pb : Option Addr} {ep vw : Int} {bid : List Int} (h : Bs ρ w0 w bb kb pb ep vw bid) (c : Chg ρ ρ' R w w') (r0 : ¬ R 0) (r20 : ¬ R 20) (r21 : ¬ R 21) (r2 : ¬ R 2) : Bs ρ' w0 w' bb kb pb ep vw bid :=
  ⟨h.i0.chg c r0, h.bd.chg c r20, h.pb.chg c r21, h.ky.chg c r2⟩

theorem bid_set (tg md : Nat) : (((u8s (List.replicate 32 0)).toArray.setIfInBounds 0 (.int .u8 (tg : Nat))).setIfInBounds 31 (.int .u8 (md : Nat))) = (u8s (bidOf tg md)).toArray := by kernel_rfl
theorem take_get {c : List Value} {l : List Value} (h : (c.drop 36).take 32 = l) (hl : l.length = 32) : ∀ (j : Nat) (u : Value), l[j]? = some u → c[36 + j]? = some u := by
  intro j u hj
  have := (List.getElem?_eq_some_iff.1 hj).1
  rw [← h, List.getElem?_take, if_pos (by omega), List.getElem?_drop] at hj
  exact hj

/-- the blocks are laid -/
theorem setupB (Q : Exit → Act → World → Prop) (a : Act) (w0 : World) (A : Ar) (P : P1 a A)
    (k : ∀ a' w' ρ bb kb rb pb pay C, P2 a' A bb kb rb pb → Bs ρ w0 w' bb kb pb A.ep A.vw (bidOf A.tg A.md) → Bk ρ 1 w' rb C 72 → RC0 A.n A.f A.id kb A.ep A.vw A.wi A.lv pb pay C → (nB 16 c6).wp Yba.prog Q a' w') : (nB 9 c6).wp Yba.prog Q a w0 := by
  have e : nB 9 c6 = .seq (nth 9 c6) (.seq (nth 10 c6) (.seq (nth 11 c6) (.seq (nth 12 c6) (.seq (nth 13 c6) (.seq (nth 14 c6) (.seq (nth 15 c6) (nB 16 c6))))))) := rfl
  rw [e]
  have hbl : (bidOf A.tg A.md).length = 32 := rfl
  refine wp_seq (s15 _ a w0 P.F fun a1 F1 S1 q23 => ?_)
  have P1' := P.go F1 S1
  have i1 : In0 (rx (fun _ => 0) w0 20) w0 (w0.alloc (.cells (u8s (List.replicate 32 0)).toArray 30)) := ⟨(Below.refl _ w0).alloc (Nat.le_refl _) _, fun k hk => rx_old hk⟩
  have b1 : Bk (rx (fun _ => 0) w0 20) 20 (w0.alloc (.cells (u8s (List.replicate 32 0)).toArray 30)) w0.heap.size (u8s (List.replicate 32 0)).toArray 30 := Bk.new _ w0 _ _ 20
  generalize w0.alloc (.cells (u8s (List.replicate 32 0)).toArray 30) = w1 at *
  generalize rx (fun _ => 0) w0 20 = ρ1 at *
  generalize w0.heap.size = bb at q23 b1
  refine wp_seq (s16 _ a1 w1 bb _ q23 P1'.s4 _ (b1.cell (i := 0) rfl) (b1.fz 0) F1 fun a2 F2 S2 => ?_)
  have P2' := P1'.go F2 (S2.sub (by decide))
  have c2 : Chg ρ1 ρ1 (fun r => r = 20) w1 (w1.setCell ⟨bb, 0, none⟩ (.int .u8 (A.tg : Nat))) := Chg.setCell w1 bb 0 _ b1.r
  have b2 := b1.set 0 (.int .u8 (A.tg : Nat))
  have i2 := i1.chg c2 (by decide)
  generalize w1.setCell ⟨bb, 0, none⟩ (.int .u8 (A.tg : Nat)) = w2 at *
  have q23b := (S2 23 (by decide)).trans q23
  refine wp_seq (s17 _ a2 w2 bb _ q23b P2'.s3 _ (b2.cell (i := 31) (v := .int .u8 0) rfl) (b2.fz 31) F2 fun a3 F3 S3 => ?_)
  have P3' := P2'.go F3 (S3.sub (by decide))
  have c3 : Chg ρ1 ρ1 (fun r => r = 20) w2 (w2.setCell ⟨bb, 31, none⟩ (.int .u8 (A.md : Nat))) := Chg.setCell w2 bb 31 _ b2.r
  have b3 := b2.set 31 (.int .u8 (A.md : Nat))
  rw [bid_set] at b3
  have i3 := i2.chg c3 (by decide)
  generalize w2.setCell ⟨bb, 31, none⟩ (.int .u8 (A.md : Nat)) = w3 at *
  have q23c := (S3 23 (by decide)).trans q23b
  clear b1 b2 i1 i2 c2 c3
  refine wp_seq (s18 _ a3 w3 F3 fun a4 F4 S4 q24 => ?_)
  have P4' := P3'.go F4 (S4.sub (by decide))
  have q23d := (S4 23 (by decide)).trans q23c
  -- the proposed block, then the rest
  have rest : ∀ a5 w5 ρ5 pb, P1 a5 A → a5.tmps[23]? = some (.pointer (some ⟨bb, 0, none⟩)) → a5.tmps[24]? = some (.pointer pb) → In0 ρ5 w0 w5 → Bk ρ5 20 w5 bb (u8s (bidOf A.tg A.md)).toArray 30 → PB ρ5 pb A.ep A.vw (bidOf A.tg A.md) w5 → (Code.seq (nth 14 c6) (.seq (nth 15 c6) (nB 16 c6))).wp Yba.prog Q a5 w5 := by
    intro a5 w5 ρ5 pb P5 r23 r24 i5 b5 p5
    refine wp_seq (s21 _ a5 w5 P5.F fun a6 F6 S6 q25 => ?_)
    have P6 := P5.go F6 (S6.sub (by decide))
    have c6 : Chg ρ5 (rx ρ5 w5 2) (fun _ => False) w5 (w5.alloc (.cells #[.nilIface, .bool false, .slice none 0 0, .slice none 0 0, .slice none 0 0] 98)) := Chg.alloc w5 _ 2
    have k6 : Bk (rx ρ5 w5 2) 2 (w5.alloc (.cells #[.nilIface, .bool false, .slice none 0 0, .slice none 0 0, .slice none 0 0] 98)) w5.heap.size #[.nilIface, .bool false, .slice none 0 0, .slice none 0 0, .slice none 0 0] 98 := Bk.new _ w5 _ _ 2
    have B6 : Bs (rx ρ5 w5 2) w0 (w5.alloc (.cells #[.nilIface, .bool false, .slice none 0 0, .slice none 0 0, .slice none 0 0] 98)) bb w5.heap.size pb A.ep A.vw (bidOf A.tg A.md) := ⟨i5.chg c6 (fun q => q), b5.chg c6 (fun q => q), p5.chg c6 (fun q => q), k6⟩
    clear c6 k6 i5 b5 p5
    generalize w5.alloc (.cells #[.nilIface, .bool false, .slice none 0 0, .slice none 0 0, .slice none 0 0] 98) = w6 at *
    generalize rx ρ5 w5 2 = ρ6 at *
    generalize w5.heap.size = kb at q25 B6
    obtain ⟨pay, h49⟩ := built49 (A.n : Nat) (A.f : Nat) kb
    obtain ⟨C, h72, hC⟩ := built72 A.n A.f A.id kb A.ep A.vw A.wi A.lv pb pay
    have r24' := (S6 24 (by decide)).trans r24
    refine wp_seq (s22 _ a6 w6 A.n A.f A.id kb A.ep A.vw A.wi A.lv pb pay C h49 h72 P6.s19 P6.s18 P6.s17 q25 P6.s5 P6.s6 P6.s21 P6.s22 r24' F6 fun a7 F7 S7 q26 => ?_)
    have c7 : Chg ρ6 (rx ρ6 w6 1) (fun _ => False) w6 (w6.alloc (.cells C 72)) := Chg.alloc w6 _ 1
    exact k a7 _ _ bb kb w6.heap.size pb pay C ⟨P6.go F7 (S7.sub (by decide)), (S7 23 (by decide)).trans ((S6 23 (by decide)).trans r23), (S7 24 (by decide)).trans r24', (S7 25 (by decide)).trans q25, q26⟩ (B6.chg c7 (fun q => q) (fun q => q) (fun q => q) (fun q => q)) (Bk.new _ w6 _ _ 1) hC
  by_cases hy : A.y = 15
  · have h20 := P4'.s20
    rw [hy] at h20
    refine wp_seq (s19n _ a4 w3 h20 q24 F4 fun a5 F5 S5 => ?_)
    exact rest a5 w3 ρ1 none (P4'.go F5 (S5.sub (by decide))) ((S5 23 (by decide)).trans q23d) ((S5 24 (by decide)).trans q24) i3 b3 (.inl rfl)
  · obtain ⟨c, hc, c0, c1, cd⟩ := built44 A.ep A.vw (A.tg : Nat) (A.md : Nat)
    refine wp_seq (s19y _ a4 w3 A.y bb hy A.ep A.vw (bidOf A.tg A.md) hbl c hc P4'.s20 P4'.s5 P4'.s6 q23d b3.range F4 fun a5 F5 S5 q24' => ?_)
    have c5 : Chg ρ1 (rx ρ1 w3 21) (fun _ => False) w3 (w3.alloc (.cells c.toArray 44)) := Chg.alloc w3 _ 21
    refine rest a5 _ (rx ρ1 w3 21) _ (P4'.go F5 (S5.sub (by decide))) ((S5 23 (by decide)).trans q23d) q24' (i3.chg c5 (fun q => q)) (b3.chg c5 (fun q => q)) (.inr ⟨_, c.toArray, rfl, Bk.new _ w3 _ _ 21, by simpa using c0, by simpa using c1, fun j u hj => ?_⟩)
    rw [List.getElem?_toArray]
    exact take_get cd (by simp [u8s, hbl]) j u hj
end Go.Proofs.Ybulkcsck.Ga
