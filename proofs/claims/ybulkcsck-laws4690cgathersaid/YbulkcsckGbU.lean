/-
  OWN TEXT. LawS4690CGather: the set-up's end; the law on cells.
-/
import Derived.Test.YbulkcsckGbT
set_option linter.unusedVariables false
namespace Go.Proofs.Ybulkcsck.Ga
open Go.RowKit

theorem setupC (Q : Exit → Act → World → Prop) (a : Act) (w0 w : World) (A : Ar) (xs : List SD) (hI : Inp w0 A.ps xs) (hln : A.ln = xs.length) (h300 : xs.length ≤ 300) (hn1 : 0 < A.n) (hn : A.n ≤ 100) (hf : A.f ≤ A.n) (htg : A.tg ≤ 255) (ρ : Nat → Nat) (bb kb rb : Nat) (pb : Option Addr) (pay : Value) (C : Array Value) (P : P2 a A bb kb rb pb) (B : Bs ρ w0 w bb kb pb A.ep A.vw (bidOf A.tg A.md)) (hR : Bk ρ 1 w rb C 72) (hC : RC0 A.n A.f A.id kb A.ep A.vw A.wi A.lv pb pay C)
    (k : ∀ L a' w', Fx L w0 xs → St L w0 xs 0 a' w' → (nB 27 c6).wp Yba.prog Q a' w') : (nB 16 c6).wp Yba.prog Q a w := by
  have e : nB 16 c6 = .seq (nth 16 c6) (.seq (nth 17 c6) (.seq (nth 18 c6) (.seq (nth 19 c6) (.seq (nth 20 c6) (.seq (nth 21 c6) (.seq (nth 22 c6) (.seq (nth 23 c6) (.seq (nth 24 c6) (.seq (nth 25 c6) (.seq (nth 26 c6) (nB 27 c6))))))))))) := rfl
  rw [e]
  refine wp_seq (loop1 _ a w0 w A ρ bb kb rb pb pay C hn P B hR hC fun a1 w1 ρ1 C1 vb hb gb P1 B1 R1 hC1 hv hS => ?_)
  obtain ⟨cf, ecf⟩ : ∃ cf : Cf, cf = ⟨rb, kb, vb, hb, gb, A.n, A.f, A.id, A.vw, A.wi, A.lv, pb, pay⟩ := ⟨_, rfl⟩
  have Rp : Rep ρ1 cf A.ep (bidOf A.tg A.md) (gh0 cf.n) w1 := by
    subst ecf
    refine ⟨⟨C1, _, _, _, R1, ⟨hC1.id, hC1.n, hC1.f, hC1.k, hC1.pay, hC1.vw, hC1.wi, hC1.lv, hC1.pb, hv 1 (by decide) (by decide), hv 2 (by decide) (by decide), hv 3 (by decide) (by decide), hC1.inb, hC1.m, hC1.sn⟩, Rw.nil _ _ _ _ _, Rw.nil _ _ _ _ _, .inl ⟨rfl, rfl⟩⟩, ⟨_, _, _, [], B1.ky, Rw.nil _ _ _ _ _, Rw.nil _ _ _ _ _, Rw.nil _ _ _ _ _, ⟨rfl, fun j v l h => by simp at h⟩, by simp [gh0]⟩, hS 1 (by decide) (by decide), hS 2 (by decide) (by decide), hS 3 (by decide) (by decide), fun x hx => by simp [gh0] at hx⟩
  have hpb : pb = none ∨ ∃ bb, pb = some ⟨bb, 0, none⟩ := by
    rcases B1.pb with h | ⟨bb, _, h, _⟩
    · exact .inl h
    · exact .inr ⟨bb, h⟩
  refine wp_seq (s27 _ a1 w1 A.vw A.wi A.lv pb hpb P1.s24 P1.p.s22 P1.p.s21 P1.p.s6 P1.p.F fun a2 F2 S2 q28 => ?_)
  have P2' := P1.go F2 S2
  refine wp_seq (s28 _ a2 w1 A.n A.f hf (by omega) P2'.p.s18 P2'.p.s17 F2 fun a3 F3 S3 q29 => ?_)
  have P3' := P2'.go F3 (S3.sub (by decide))
  refine wp_seq (s29 _ a3 w1 F3 fun a4 F4 S4 q30 => ?_)
  have P4' := P3'.go F4 (S4.sub (by decide))
  have c4 : Chg ρ1 (rx ρ1 w1 22) (fun _ => False) w1 (w1.alloc (.cells #[.slice none 0 0, .slice none 0 0, .slice none 0 0, .slice none 0 0] 104)) := Chg.alloc w1 _ 22
  have H4 : Bk (rx ρ1 w1 22) 22 (w1.alloc (.cells #[.slice none 0 0, .slice none 0 0, .slice none 0 0, .slice none 0 0] 104)) w1.heap.size (hr A.n 1 fun _ => 0) 104 := Bk.new _ w1 _ _ 22
  have Rp4 := Rp.chg c4 (fun _ _ _ q => q)
  have i4 := B1.i0.chg c4 (fun q => q)
  have bd4 := B1.bd.chg c4 (fun q => q)
  have pb4 := B1.pb.chg c4 (fun q => q)
  generalize w1.alloc (.cells #[.slice none 0 0, .slice none 0 0, .slice none 0 0, .slice none 0 0] 104) = w4 at *
  generalize rx ρ1 w1 22 = ρ4 at *
  generalize w1.heap.size = hA at q30 H4
  clear c4 B1 hS hv R1 Rp
  refine wp_seq (s30 _ a4 w4 F4 fun a5 F5 S5 q31 => ?_)
  have P5' := P4'.go F5 (S5.sub (by decide))
  have c5 : Chg ρ4 (rx ρ4 w4 23) (fun _ => False) w4 (w4.alloc (.cells #[.slice none 0 0, .slice none 0 0, .slice none 0 0, .slice none 0 0] 105)) := Chg.alloc w4 _ 23
  have I5 : Bk (rx ρ4 w4 23) 23 (w4.alloc (.cells #[.slice none 0 0, .slice none 0 0, .slice none 0 0, .slice none 0 0] 105)) w4.heap.size (hr A.n 1 fun _ => 0) 105 := Bk.new _ w4 _ _ 23
  have Rp5 := Rp4.chg c5 (fun _ _ _ q => q)
  have i5 := i4.chg c5 (fun q => q)
  have bd5 := bd4.chg c5 (fun q => q)
  have pb5 := pb4.chg c5 (fun q => q)
  have H5 := H4.chg c5 (fun q => q)
  generalize w4.alloc (.cells #[.slice none 0 0, .slice none 0 0, .slice none 0 0, .slice none 0 0] 105) = w5 at *
  generalize rx ρ4 w4 23 = ρ5 at *
  generalize w4.heap.size = iA at q31 I5
  clear c5 Rp4 i4 bd4 pb4 H4
  refine wp_seq (s31 _ a5 w5 F5 fun a6 F6 S6 q32 => ?_)
  have P6' := P5'.go F6 (S6.sub (by decide))
  have c6 : Chg ρ5 (rx ρ5 w5 24) (fun _ => False) w5 (w5.alloc (.cells #[.int .i64 0, .int .i64 0, .int .i64 0, .int .i64 0] 106)) := Chg.alloc w5 _ 24
  have C6 : Bk (rx ρ5 w5 24) 24 (w5.alloc (.cells #[.int .i64 0, .int .i64 0, .int .i64 0, .int .i64 0] 106)) w5.heap.size #[.int .i64 0, .int .i64 0, .int .i64 0, .int .i64 0] 106 := Bk.new _ w5 _ _ 24
  have Rp6 := Rp5.chg c6 (fun _ _ _ q => q)
  have i6 := i5.chg c6 (fun q => q)
  have bd6 := bd5.chg c6 (fun q => q)
  have pb6 := pb5.chg c6 (fun q => q)
  have H6 := H5.chg c6 (fun q => q)
  have I6 := I5.chg c6 (fun q => q)
  generalize w5.alloc (.cells #[.int .i64 0, .int .i64 0, .int .i64 0, .int .i64 0] 106) = w6 at *
  generalize rx ρ5 w5 24 = ρ6 at *
  generalize w5.heap.size = cA' at q32 C6
  clear c6 Rp5 i5 bd5 pb5 H5 I5
  have P3f : P3 a6 A bb kb rb pb hA iA cA' := ⟨P6', (S6 28 (by decide)).trans ((S5 28 (by decide)).trans ((S4 28 (by decide)).trans ((S3 28 (by decide)).trans q28))), (S6 29 (by decide)).trans ((S5 29 (by decide)).trans ((S4 29 (by decide)).trans q29)), (S6 30 (by decide)).trans ((S5 30 (by decide)).trans q30), (S6 31 (by decide)).trans q31, q32⟩
  have en : cf.n = A.n := by rw [ecf]
  have M6 : M0 ρ6 cf A.ep (bidOf A.tg A.md) w0 w6 bb hA iA cA' := ⟨Rp6, i6, bd6, by rw [ecf]; exact pb6, C6⟩
  refine wp_seq (loop3 _ a6 w0 w6 A ρ6 cf en bb kb rb pb hA iA cA' hn P3f M6 H6 I6 fun a7 w7 ρ7 lh li P7 M7 H7 I7 hh hi => ?_)
  refine wp_seq (s37 _ a7 w7 P7.p.p.F fun a8 F8 S8 q34 => ?_)
  refine wp_seq (s38 _ a8 w7 F8 fun a9 F9 S9 q35 => ?_)
  refine wp_seq (s39 _ a9 w7 F9 fun a10 F10 S10 q36 => ?_)
  refine wp_seq (s40 _ a10 w7 F10 fun a11 F11 S11 q37 => ?_)
  have Pf : P3 a11 A bb kb rb pb hA iA cA' := (((P7.go F8 (S8.sub (by decide))).go F9 (S9.sub (by decide))).go F10 (S10.sub (by decide))).go F11 (S11.sub (by decide))
  have z34 := (S11 34 (by decide)).trans ((S10 34 (by decide)).trans ((S9 34 (by decide)).trans q34))
  have z35 := (S11 35 (by decide)).trans ((S10 35 (by decide)).trans q35)
  have z36 := (S11 36 (by decide)).trans q36
  refine k ⟨cf, A.ep, (A.tg : Nat), bidOf A.tg A.md, bb, A.ps, A.ln, A.cp, hA, iA, cA', lh, li⟩ a11 w7 ?_ ?_
  · refine ⟨hI, hln, h300, ?_, ?_, ?_, rfl, ⟨_, rfl⟩, ?_⟩
    · show 0 < cf.n; omega
    · show cf.n ≤ 100; omega
    · show cf.f ≤ cf.n; rw [ecf]; exact hf
    · exact ⟨by show (0 : Int) ≤ (A.tg : Nat); omega, by show ((A.tg : Nat) : Int) ≤ 255; omega⟩
  · refine ⟨?_, ρ7, gh0 cf.n, fun _ => List.replicate cf.n 0, .slice none 0 0, .slice none 0 0, .slice none 0 0, .slice none 0 0, z34, z35, z36, q37, M7.rp, ?_, ?_⟩
    · have hF := Pf.p.p.F
      refine ⟨hF.sz, hF.df, Pf.p.p.s4, Pf.p.p.s5, ?_, Pf.p.p.s7, ?_, ?_, Pf.p.s23, ?_, ?_, ?_, ?_, ?_, Pf.s30, Pf.s31, Pf.s32⟩
      · rw [ecf]; exact Pf.p.p.s6
      · rw [ecf]; exact Pf.p.p.s18
      · rw [ecf]; exact Pf.p.p.s19
      · rw [ecf]; exact Pf.p.s24
      · rw [ecf]; exact Pf.p.s25
      · rw [ecf]; exact Pf.p.s26
      · rw [ecf]; exact Pf.s28
      · rw [ecf]; exact Pf.s29
    · refine ⟨M7.i0, M7.bd, M7.pb, Rw.nil _ _ _ _ _, ⟨[], Rw.nil _ _ _ _ _, rfl, fun j v l h => by simp at h⟩, ⟨?_, fun s t1 t3 => ?_⟩, ⟨?_, fun s t1 t3 => ?_⟩, ?_, ⟨Rw.nil _ _ _ _ _, [], Rw.nil _ _ _ _ _, fun j v q h => by simp at h⟩⟩
      · rw [ecf]; exact H7
      · have := hh s t1 t3
        rw [← en] at this
        simpa [gh0] using this
      · rw [ecf]; exact I7
      · have := hi s t1 t3
        rw [← en] at this
        simpa using this
      · exact M7.lc
    · refine ⟨Nat.le_refl _, rfl, fun s _ _ => by simp [gh0], fun s _ _ => by simp, fun s _ _ => by simp [gh0], fun s _ _ => Nat.le_refl _, fun s _ _ v hv => ?_, fun s _ _ i h => ?_, fun x hx => by simp [gh0] at hx, fun x hx => by simp [gh0] at hx, Nat.zero_le _, fun x hx => by simp [gh0] at hx⟩
      · obtain rfl := List.eq_of_mem_replicate hv
        exact ⟨_, _, _, rfl⟩
      · exact absurd (List.mem_of_getElem? h) (by simp [gh0, List.mem_replicate])

/-- the whole law on cells -/
theorem law6 (Q : Exit → Act → World → Prop) (a : Act) (w0 : World) (fs ex ids md tg : Nat) (hmd : md ≤ 255) (hid : ids ≤ 255) (htg : tg ≤ 255) (ep vw : Int) (ps : Option Addr) (ln cp : Nat) (xs : List SD) (hI : Inp w0 ps xs) (hln : ln = xs.length) (F : Fz a) (h0 : a.tmps[0]? = some (.int .u8 (fs : Nat))) (h1 : a.tmps[1]? = some (.int .u8 (ex : Nat))) (h2 : a.tmps[2]? = some (.int .u8 (ids : Nat))) (h3 : a.tmps[3]? = some (.int .u8 (md : Nat))) (h4 : a.tmps[4]? = some (.int .u8 (tg : Nat)))
    (h5 : a.tmps[5]? = some (.int .i64 ep)) (h6 : a.tmps[6]? = some (.int .i64 vw)) (h7 : a.tmps[7]? = some (.slice ps ln cp))
    (k : ∀ a' w', a'.defers = [] → a'.tmps[16]? = some (.bool true) → Below w0.heap.size w0 w' → Q .ret a' w') : c6.wp Yba.prog Q a w0 := by
  refine setupA Q a w0 fs ex ids md tg hmd hid ep vw ps ln cp F h0 h1 h2 h3 h4 h5 h6 h7 (fun _ a' hd h16 => k a' w0 hd h16 (Below.refl _ _)) fun hle a1 A P1 e1 e2 e3 e4 e5 e6 e7 n1 n2 nf => ?_
  refine setupB Q a1 w0 A P1 fun a2 w2 ρ bb kb rb pb pay C P2 B R hC => ?_
  refine setupC Q a2 w0 w2 A xs (by rw [e5]; exact hI) (by rw [e6]; exact hln) (by omega) n1 n2 nf (by omega) ρ bb kb rb pb pay C P2 B R hC fun L a3 w3 X H => ?_
  have e : nB 27 c6 = .seq (nth 27 c6) (nB 28 c6) := rfl
  rw [e]
  refine wp_seq (mainLoop _ a3 L w3 w0 xs X H fun a4 w4 H4 => ?_)
  exact theEnd Q L w0 xs X a4 w4 H4 k

theorem gather (w0 : World) (fs ex ids md tg : Nat) (hmd : md ≤ 255) (hid : ids ≤ 255) (htg : tg ≤ 255) (ep vw : Int) (ps : Option Addr) (ln cp : Nat) (xs : List SD) (hI : Inp w0 ps xs) (hln : ln = xs.length) :
    Calls Yba.prog 6 #[.int .u8 (fs : Nat), .int .u8 (ex : Nat), .int .u8 (ids : Nat), .int .u8 (md : Nat), .int .u8 (tg : Nat), .int .i64 ep, .int .i64 vw, .slice ps ln cp] w0 fun e w' => e = .returned (.bool true) ∧ Below w0.heap.size w0 w' := by
  have hr : Yba.f6.results = #[.tmp 16] := by kernel_rfl
  refine calls_of_wp (c := c6) Yba.func6 (by kernel_rfl) ?_
  refine law6 _ _ w0 fs ex ids md tg hmd hid htg ep vw ps ln cp xs hI hln ⟨by simp, rfl⟩ (by simp) (by simp) (by simp) (by simp) (by simp) (by simp) (by simp) (by simp) fun a' w' hd h16 hb => ?_
  refine bodyPost_ret (results_tmp hr _ _ _) hd ⟨?_, hb⟩
  simp [h16]
end Go.Proofs.Ybulkcsck.Ga
