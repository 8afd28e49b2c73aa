/-
  OWN TEXT. LawS4690CGather: onVote at a vote that is added and makes the quorum.
-/
import Derived.Test.YbulkcsckGaU
namespace Go.Proofs.Ybulkcsck.Ga
open Go.RowKit

theorem wpList_val {P : Program} {ops : Array Oper} {rest : List Oper} {o : Oper} {a : Act} {w : World} {Q : Exit → Act → World → Prop} (hg : o.guard = none) (v : Value) (hrun : (execOp a.eval o).run P w = .ok (.value v) w)
    (h : wpList P ops Q rest (a.put o.dst v) w) : wpList P ops Q (o :: rest) a w := by
  refine wpList_plain hg fun K hK => ?_
  unfold Oper.wp
  rw [hrun, Oper.upon_value]
  exact hK _ _ h
theorem wpList_build_any {P : Program} {ops : Array Oper} {rest : List Oper} {o : Oper} {a : Act} {w : World} {Q : Exit → Act → World → Prop} (hgd : o.guard = none) (t : TypeId) {parts : Array (Nat × Operand)} {vs : List (Nat × Value)} {cells : Array Value} (ho : o.op = .build t parts) (h : P.built t vs = some cells)
    (hp : (parts.map fun (i, x) => (i, a.eval x)).toList = vs) (k : wpList P ops Q rest (a.put o.dst (.agg cells)) w) : wpList P ops Q (o :: rest) a w := by
  refine wpList_plain hgd fun K hK => ?_
  unfold Oper.wp execOp
  subst hp
  simp only [ho, Sem.run_bind, run_build w t _ cells h, Result.andThen_ok, Sem.run_pure]
  exact hK _ _ k
theorem wpList_box_any {P : Program} {ops : Array Oper} {rest : List Oper} {o : Oper} {a : Act} {w : World} {Q : Exit → Act → World → Prop} (hgd : o.guard = none) (t : TypeId) (x : Operand) {c : Array Value} (ho : o.op = .box t x) (hx : (a.eval x).cells = c)
    (k : wpList P ops Q rest (a.put o.dst (.pointer (some ⟨w.heap.size, 0, none⟩))) (w.alloc (.cells c t))) : wpList P ops Q (o :: rest) a w :=
  wpList_plain hgd fun _ hK => Rt.wp_box ho hx (hK _ _ k)
theorem qc_at {ρ : Nat → Nat} {r b : Nat} {w : World} {s ep vw : Int} {bid : List Int} {sg : Value} (h : Bk ρ r w b (qcL s ep vw bid sg).toArray 32) (hl : bid.length = 32) : w.rangeAt b 0 (qcL s ep vw bid sg) ∧ w.cell? ⟨b, 35, none⟩ = some sg := by
  refine ⟨fun j u hj => ?_, h.cell ?_⟩
  · rw [Nat.zero_add]
    exact h.cell (by simpa using hj)
  · have : (u8s bid).length = 32 := by simp [u8s, hl]
    simp [qcL, this]
theorem qcL_one (s ep vw : Int) (bid : List Int) (p : Option Addr) (m c : Nat) : ∀ v ∈ qcL s ep vw bid (.slice p m c), v.oneCell' = true := by
  intro v hv
  simp [qcL, u8s] at hv
  rcases hv with rfl | rfl | rfl | ⟨_, _, rfl⟩ | rfl <;> rfl

set_option maxRecDepth 100000 in
set_option maxHeartbeats 3200000 in
theorem matchT4 (cf : Cf) (ρ : Nat → Nat) (ep : Int) (bid : List Int) (g : Gh) (mb bb fr s : Nat) (ps : Option Addr) (ns cs : Nat) (w : World) (hR : Rep ρ cf ep bid g w) (hpb : cf.pb = some ⟨bb, 0, none⟩) (hv : (!cf.lv && decide (cf.wi ≤ cf.vw)) = true) (hG : GateS mb bb s ep cf.vw ep cf.vw bid bid w) (hbl : bid.length = 32) (h1 : 1 ≤ s) (h3 : s ≤ 3)
    (hsig : w.cell? ⟨mb, 35, none⟩ = some (.slice ps ns cs)) (hmr : ρ mb = 35) (hle : g.frm.length ≤ 900) (hres : (decide ((fr : Int) = cf.id) || g.ans) = true) (hhas : (g.has s)[fr]? = some false) (hcn : g.cnt s ≤ 500) (hn : cf.n ≤ 1000) (hf : cf.f ≤ cf.n) (hq : (((g.cnt s + 1 : Nat) : Int) == ((cf.n - cf.f : Nat) : Int)) = true) (hbr : ρ bb = 21) (hsl : ∀ v ∈ (addG s fr (.slice ps ns cs) (sgn fr cf.id (stL s ep cf.vw bid) g)).sig s, ∃ p m c, v = .slice p m c) (hql : g.qs.length ≤ 8) (hqs : ∀ x ∈ g.qs, keyS ep cf.vw bid x ≠ strOfNums (stL s ep cf.vw bid)) :
    Calls Yba.prog 14 #[.pointer (some ⟨cf.rb, 0, none⟩), .int .i64 (fr : Int), .pointer (some ⟨mb, 0, none⟩)] w (OvQ ρ cf ep bid s (addG s fr (.slice ps ns cs) (sgn fr cf.id (stL s ep cf.vw bid) g)) w) := by
  obtain ⟨C, inV, mV, snV, a1, a2, a3, a4, a5⟩ := hR.r
  have h96 : w.cell? ⟨cf.rb, 96, none⟩ = some (.pointer (some ⟨bb, 0, none⟩)) := by rw [← hpb]; exact a1.cell a2.pb
  have VOT : Hid (Calls Yba.prog 23 #[.pointer (some ⟨cf.rb, 0, none⟩)] w.drew fun e w' => e = .returned (.bool true) ∧ Below w.drew.heap.size w.drew w') := by
    have q := voting_any cf.rb cf.lv cf.wi cf.vw w.drew (a1.cell a2.lv) (a1.cell a2.wi) (a1.cell a2.vw)
    rw [hv] at q
    exact q
  have SG : Hid (∀ w', Below w.heap.size w w' → GateS mb bb s ep cf.vw ep cf.vw bid bid w') := fun w' h => hG.below h
  have SG0 : Hid (GateS mb bb s ep cf.vw ep cf.vw bid bid w.drew) := SG.out _ (Below.refl _ w).drew
  have HLB : Hid (bid.length = 32) := hbl
  have H2 : Hid ((ep != ep) = false) := by unfold Hid; simp
  have H3 : Hid ((cf.vw != cf.vw) = false) := by unfold Hid; simp
  have H4 : Hid ((!(bid == bid)) = false) := by unfold Hid; simp
  have H5 : Hid (decide ((s : Int) < 1) = false) := decide_eq_false (by omega)
  have H6 : Hid (decide ((s : Int) > 3) = false) := decide_eq_false (by omega)
  have HS4 : Hid (s < 4) := by unfold Hid; omega
  have mlt : mb < w.heap.size := World.block_lt_of_cell? w _ hsig
  have R2S : Hid (∀ w', Below w.heap.size w w' → w'.drew.cell? ⟨mb, 0, none⟩ = some (.int .i64 (s : Int)) ∧ w'.drew.cell? ⟨cf.rb, 97 + s, none⟩ = some (.pointer (some ⟨cf.vb s, 0, none⟩))) := fun w' h =>
    ⟨(h.cell (p := ⟨mb, 0, none⟩) mlt).trans hG.1.1, (h.cell (p := ⟨cf.rb, 97 + s, none⟩) a1.lt).trans (a1.cell (a2.vs h1 h3))⟩
  have S3 : Hid (∀ w', Below w.heap.size w w' → w'.cell? ⟨mb, 35, none⟩ = some (.slice ps ns cs)) := fun w' h => (h.cell (p := ⟨mb, 35, none⟩) mlt).trans hsig
  have S5 : Hid (∀ w' ρ', Chg ρ ρ' (fun r => 1 ≤ r ∧ r ≤ 17) w w' → w'.cell? ⟨mb, 35, none⟩ = some (.slice ps ns cs)) := fun w' ρ' h => (World.cell?_of_block (w := w) (a := ⟨mb, 35, none⟩) (h.block mb mlt (by rw [hmr]; omega))).trans hsig
  have SAYS : Hid (∀ w', Below w.heap.size w w' → Calls Yba.prog 25 #[.pointer (some ⟨mb, 0, none⟩)] w' (OwnP w'.heap.size w' 71 (u8s (stL s ep cf.vw bid)))) := fun w' h => vote_says mb s ep cf.vw bid hbl w' (SG.out w' h).1
  have SIGN : Hid (∀ gs c4 w', Below w.heap.size w w' → Rw (rx ρ w 18) 18 5 1 w' (.slice (some ⟨gs, 0, none⟩) 71 c4) 71 (u8s (stL s ep cf.vw bid)) → Calls Yba.prog 24 #[.pointer (some ⟨cf.rb, 0, none⟩), .int .i64 (fr : Int), .slice (some ⟨gs, 0, none⟩) 71 c4, .slice ps ns cs] w' (SgP (rx ρ w 18) cf ep bid (sgn fr cf.id (stL s ep cf.vw bid) g) true w')) := fun gs c4 w' h hrw => by
    have q := signed_any (rx ρ w 18) cf ep bid g gs c4 fr (stL s ep cf.vw bid) ps ns cs w' (hR.chg (Chg.of_below (R := fun _ => False) h 18) (fun _ _ _ q => q)) hrw (stL_length _ _ _ _ hbl) hle
    rw [hres] at q
    exact q
  have ADD : Hid (∀ w' ρ', Rep ρ' cf ep bid (sgn fr cf.id (stL s ep cf.vw bid) g) w' → Calls Yba.prog 26 #[.pointer (some ⟨cf.vb s, 0, none⟩), .int .i64 (fr : Int), .slice ps ns cs] w' fun e w'' => e = .returned (.bool true) ∧ Rep ρ' cf ep bid (addG s fr (.slice ps ns cs) (sgn fr cf.id (stL s ep cf.vw bid) g)) w'' ∧ Chg ρ' ρ' (fun r => 1 ≤ r ∧ r ≤ 17) w' w'') := fun w' ρ' h =>
    h.add h1 h3 fr ps ns cs (by rw [sgn_has]; exact hhas) (by rw [sgn_cnt]; omega)
  have S4 : Hid (∀ w' ρ', Rep ρ' cf ep bid (addG s fr (.slice ps ns cs) (sgn fr cf.id (stL s ep cf.vw bid) g)) w' → R4 cf.rb (cf.vb s) cf.n cf.f cf.kb (g.cnt s + 1) cf.pay w') := fun w' ρ' h => by
    have k := h.r4 h1 h3
    have e : (addG s fr (.slice ps ns cs) (sgn fr cf.id (stL s ep cf.vw bid) g)).cnt s = g.cnt s + 1 := by simp [addG, sgn_cnt]
    rw [e] at k
    exact k
  have QUO : Hid (∀ w', Calls Yba.prog 27 #[.agg [.int .i64 cf.n, .int .i64 cf.f, .iface 96 (.pointer (some ⟨cf.kb, 0, none⟩)), cf.pay].toArray] w' fun e w'' => e = .returned (.int .i64 ((cf.n - cf.f : Nat) : Int)) ∧ Below w'.heap.size w' w'') := fun w' => quorum_any cf.n cf.f 96 _ cf.pay w' hn hf
  have HQ : Hid ((((g.cnt s + 1 : Nat) : Int) == ((cf.n - cf.f : Nat) : Int)) = true) := hq
  have G5 : Hid (∀ w' ρ', Chg ρ ρ' (fun r => 1 ≤ r ∧ r ≤ 17) w w' → GateS mb bb s ep cf.vw ep cf.vw bid bid w') := fun w' ρ' h => hG.chg h (by rw [hmr]; omega) (by rw [hbr]; omega)
  have LST : Hid (∀ w' ρ', Rep ρ' cf ep bid (addG s fr (.slice ps ns cs) (sgn fr cf.id (stL s ep cf.vw bid) g)) w' → Calls Yba.prog 28 #[.pointer (some ⟨cf.vb s, 0, none⟩)] w' (ListP w' ((addG s fr (.slice ps ns cs) (sgn fr cf.id (stL s ep cf.vw bid) g)).has s) ((addG s fr (.slice ps ns cs) (sgn fr cf.id (stL s ep cf.vw bid) g)).sig s))) := fun w' ρ' h =>
    list_any ρ' s w' _ _ _ _ _ _ _ (h.ss h1 h3) hsl (by simp only [addG, sgn_cnt]; simp; omega) hn
  have REM : Hid (∀ w' ρ' gb c p m q, Rep ρ' cf ep bid (addG s fr (.slice ps ns cs) (sgn fr cf.id (stL s ep cf.vw bid) g)) w' → Rw ρ' 18 5 1 w' (.slice (some ⟨gb, 0, none⟩) 71 c) 71 (u8s (stL s ep cf.vw bid)) → Calls Yba.prog 29 #[.pointer (some ⟨cf.rb, 108, none⟩), .slice (some ⟨gb, 0, none⟩) 71 c, .slice p m q] w' fun e w'' => e = .returned (.tuple #[]) ∧ ∃ ρ'', RepK ρ'' cf ep bid (addG s fr (.slice ps ns cs) (sgn fr cf.id (stL s ep cf.vw bid) g)) (g.qs.map (keyS ep cf.vw bid) ++ [strOfNums (stL s ep cf.vw bid)]) w'' ∧ Chg ρ' ρ'' (fun r => 1 ≤ r ∧ r ≤ 17) w' w'') := fun w' ρ' gb c p m q h hrw => by
    have k := h.rem gb c (stL s ep cf.vw bid) p m q (by simp only [addG, sgn_qs]; exact hqs) (by simp only [addG, sgn_qs]; exact hql) (stL_length _ _ _ _ hbl) hrw
    simpa only [addG, sgn_qs] using k
  have BRD : Hid (∀ w' ρ' qp p m c, RepK ρ' cf ep bid (addG s fr (.slice ps ns cs) (sgn fr cf.id (stL s ep cf.vw bid) g)) (g.qs.map (keyS ep cf.vw bid) ++ [strOfNums (stL s ep cf.vw bid)]) w' → Qm ρ' w' ep cf.vw bid (some ⟨bb, 0, none⟩) ⟨s, qp, .slice p m c, m, sigL 0 ((addG s fr (.slice ps ns cs) (sgn fr cf.id (stL s ep cf.vw bid) g)).has s) ((addG s fr (.slice ps ns cs) (sgn fr cf.id (stL s ep cf.vw bid) g)).sig s)⟩ → Calls Yba.prog 31 #[.pointer (some ⟨cf.rb, 0, none⟩), .iface 120 (.pointer (some ⟨qp, 0, none⟩))] w' fun e w'' => e = .returned (.tuple #[]) ∧ ∃ ρ'' q, q.st = s ∧ q.cells = sigL 0 ((addG s fr (.slice ps ns cs) (sgn fr cf.id (stL s ep cf.vw bid) g)).has s) ((addG s fr (.slice ps ns cs) (sgn fr cf.id (stL s ep cf.vw bid) g)).sig s) ∧ Rep ρ'' cf ep bid { (addG s fr (.slice ps ns cs) (sgn fr cf.id (stL s ep cf.vw bid) g)) with qs := (addG s fr (.slice ps ns cs) (sgn fr cf.id (stL s ep cf.vw bid) g)).qs ++ [q] } w'' ∧ Chg ρ' ρ'' (fun r => 1 ≤ r ∧ r ≤ 17) w' w'') := fun w' ρ' qp p m c h hm => by
    refine (RepK.brd (cf := cf) (g := addG s fr (.slice ps ns cs) (sgn fr cf.id (stL s ep cf.vw bid) g)) ⟨s, qp, .slice p m c, m, sigL 0 ((addG s fr (.slice ps ns cs) (sgn fr cf.id (stL s ep cf.vw bid) g)).has s) ((addG s fr (.slice ps ns cs) (sgn fr cf.id (stL s ep cf.vw bid) g)).sig s)⟩ (by simpa only [addG, sgn_qs, keyS] using h) (by rw [hpb]; exact hm) (by simp only [addG, sgn_qs]; exact hql)).mono ?_
    rintro e w'' ⟨rfl, ρ'', h1, h2⟩
    exact ⟨rfl, ρ'', _, rfl, rfl, h1, h2⟩
  generalize hG2 : addG s fr (.slice ps ns cs) (sgn fr cf.id (stL s ep cf.vw bid) g) = G2 at *
  generalize hcnt : g.cnt s + 1 = cnt at *
  clear a1 a2 a3 a4 a5 hR hG hsig hmr hbr hle hv hpb hbl mlt hres h1 h3 hhas hcn hn hf hq hsl hql hqs
  generalize hrb : cf.rb = rb at *
  generalize hvw : cf.vw = vw at *
  generalize hvb : cf.vb s = vb at *
  generalize hnn : cf.n = n at *
  generalize hff : cf.f = f at *
  generalize hkb : cf.kb = kb at *
  generalize hpay : cf.pay = pay at *
  go_enter Yba.func14, Yba.ntmps14
  go_upto_region 1 with fail
  clear h96
  refine Rt.regionL (GateS mb bb s ep vw ep vw bid bid) [some (.pointer (some ⟨bb, 0, none⟩)), some (.bool false), some (.bool false), some (.pointer (some ⟨rb, 0, none⟩))] 50
    (by kernel_rfl) (by kernel_rfl) (by kernel_rfl) (by kernel_rfl) (by kernel_rfl) SG0.out ?_ ?_
  · skip
    refine Rt.yc (Rt.y_move (by kernel_rfl) rfl (by kernel_rfl)) ?_
    refine Rt.yc (Rt.y_bin (by kernel_rfl) rfl (fun w => ptrNilS bb w)) ?_
    refine Rt.yc (Rt.y_move (by kernel_rfl) rfl (by kernel_rfl)) ?_
    refine Rt.yc (Rt.y_move (by kernel_rfl) rfl (by kernel_rfl)) ?_
    exact Rt.ye
  refine Rt.oneL 4 (by kernel_rfl) rfl (by kernel_rfl) ?_
  with_reducible refine Rt.wp_call (vs := #[.pointer (some ⟨rb, 0, none⟩)]) rfl ?_ (Yba.call23 _) ?_
  · kernel_rfl
  refine VOT.out.mono ?_
  rintro x w1 ⟨rfl, hb1⟩
  have hb1' : Below w.heap.size w w1 := (Below.refl _ w).drew.trans hb1
  refine ⟨_, rfl, (SG.out w1 hb1'), ?_⟩
  refine Rt.moreL [none, none, none, none, none, some (.bool false), some (.bool false), some (.bool false), some (.pointer (some ⟨mb, 0, none⟩)), some (.pointer (some ⟨mb, 0, none⟩)), some (.pointer (some ⟨mb, 1, none⟩)), some (.int .i64 ep), some (.pointer (some ⟨bb, 0, none⟩)), some (.pointer (some ⟨bb, 0, none⟩)), some (.pointer (some ⟨bb, 0, none⟩)), some (.int .i64 ep), some (.bool false), some (.bool false), some (.bool false), some (.pointer (some ⟨mb, 0, none⟩)), some (.pointer (some ⟨mb, 0, none⟩)), some (.pointer (some ⟨mb, 2, none⟩)), some (.int .i64 vw), some (.pointer (some ⟨bb, 0, none⟩)), some (.pointer (some ⟨bb, 0, none⟩)), some (.pointer (some ⟨bb, 1, none⟩)), some (.int .i64 vw), some (.bool false), some (.bool false), some (.bool false), some (.pointer (some ⟨mb, 0, none⟩)), some (.pointer (some ⟨mb, 0, none⟩)), some (.pointer (some ⟨mb, 3, none⟩)), some (.agg (u8s bid).toArray), some (.pointer (some ⟨bb, 0, none⟩)), some (.pointer (some ⟨bb, 0, none⟩)), some (.pointer (some ⟨bb, 36, none⟩)), some (.agg (u8s bid).toArray), some (.bool false), some (.bool false), some (.bool false), some (.pointer (some ⟨mb, 0, none⟩)), some (.pointer (some ⟨mb, 0, none⟩)), some (.pointer (some ⟨mb, 0, none⟩)), some (.int .i64 s), some (.bool false), some (.bool false), some (.bool false), some (.pointer (some ⟨mb, 0, none⟩)), some (.pointer (some ⟨mb, 0, none⟩)), some (.pointer (some ⟨mb, 0, none⟩)), some (.int .i64 s), some (.bool false), some (.bool false)] 0 (by kernel_rfl) (by kernel_rfl) (by kernel_rfl) (by kernel_rfl) (SG.out w1 hb1') ?_ ?_
  · refine Rt.yn (Rt.yn (Rt.yn (Rt.yn (Rt.yn ?_))))
    refine Rt.yc (Rt.y_not (t := true) (by kernel_rfl) rfl (by kernel_rfl)) ?_
    refine Rt.yc (Rt.y_pick false (by kernel_rfl) rfl (by kernel_rfl) (by kernel_rfl)) ?_
    refine Rt.yc (Rt.y_move (by kernel_rfl) rfl (by kernel_rfl)) ?_
    refine Rt.yc (Rt.y_move (by kernel_rfl) rfl (by kernel_rfl)) ?_
    refine Rt.yc (Rt.y_nil (by kernel_rfl) rfl (by kernel_rfl)) ?_
    refine Rt.yc (Rt.y_field 0 0 (by kernel_rfl) rfl (by kernel_rfl) Yba.underlying112 rfl (by kernel_rfl) rfl) ?_
    refine Rt.yc (Rt.y_load mb 1 (by kernel_rfl) rfl (by kernel_rfl) Yba.isAgg3 (fun w h => h.1.2.1)) ?_
    refine Rt.yc (Rt.y_move (by kernel_rfl) rfl (by kernel_rfl)) ?_
    refine Rt.yc (Rt.y_nil (by kernel_rfl) rfl (by kernel_rfl)) ?_
    refine Rt.yc (Rt.y_field 0 0 (by kernel_rfl) rfl (by kernel_rfl) Yba.underlying44 rfl (by kernel_rfl) rfl) ?_
    refine Rt.yc (Rt.y_load bb 0 (by kernel_rfl) rfl (by kernel_rfl) Yba.isAgg3 (fun w h => h.2.1)) ?_
    refine Rt.yc (Rt.y_bin (by kernel_rfl) rfl (fun w => neqI ep ep _ H2.out w)) ?_
    refine Rt.yc (Rt.y_pick false (by kernel_rfl) rfl (by kernel_rfl) (by kernel_rfl)) ?_
    refine Rt.yc (Rt.y_move (by kernel_rfl) rfl (by kernel_rfl)) ?_
    refine Rt.yc (Rt.y_move (by kernel_rfl) rfl (by kernel_rfl)) ?_
    refine Rt.yc (Rt.y_nil (by kernel_rfl) rfl (by kernel_rfl)) ?_
    refine Rt.yc (Rt.y_field 0 0 (by kernel_rfl) rfl (by kernel_rfl) Yba.underlying112 rfl (by kernel_rfl) rfl) ?_
    refine Rt.yc (Rt.y_load mb 2 (by kernel_rfl) rfl (by kernel_rfl) Yba.isAgg3 (fun w h => h.1.2.2.1)) ?_
    refine Rt.yc (Rt.y_move (by kernel_rfl) rfl (by kernel_rfl)) ?_
    refine Rt.yc (Rt.y_nil (by kernel_rfl) rfl (by kernel_rfl)) ?_
    refine Rt.yc (Rt.y_field 0 0 (by kernel_rfl) rfl (by kernel_rfl) Yba.underlying44 rfl (by kernel_rfl) rfl) ?_
    refine Rt.yc (Rt.y_load bb 1 (by kernel_rfl) rfl (by kernel_rfl) Yba.isAgg3 (fun w h => h.2.2.1)) ?_
    refine Rt.yc (Rt.y_bin (by kernel_rfl) rfl (fun w => neqI vw vw _ H3.out w)) ?_
    refine Rt.yc (Rt.y_pick false (by kernel_rfl) rfl (by kernel_rfl) (by kernel_rfl)) ?_
    refine Rt.yc (Rt.y_move (by kernel_rfl) rfl (by kernel_rfl)) ?_
    refine Rt.yc (Rt.y_move (by kernel_rfl) rfl (by kernel_rfl)) ?_
    refine Rt.yc (Rt.y_nil (by kernel_rfl) rfl (by kernel_rfl)) ?_
    refine Rt.yc (Rt.y_field 31 0 (by kernel_rfl) rfl (by kernel_rfl) Yba.underlying112 rfl (by kernel_rfl) rfl) ?_
    refine Rt.yc (Rt.y_loadm mb 3 (by kernel_rfl) rfl (by kernel_rfl) (fun w h => h.1.2.2.2) Yba.underlying30 rfl (inf30 HLB.out)) ?_
    refine Rt.yc (Rt.y_move (by kernel_rfl) rfl (by kernel_rfl)) ?_
    refine Rt.yc (Rt.y_nil (by kernel_rfl) rfl (by kernel_rfl)) ?_
    refine Rt.yc (Rt.y_field 31 0 (by kernel_rfl) rfl (by kernel_rfl) Yba.underlying44 rfl (by kernel_rfl) rfl) ?_
    refine Rt.yc (Rt.y_loadm bb 36 (by kernel_rfl) rfl (by kernel_rfl) (fun w h => h.2.2.2) Yba.underlying30 rfl (inf30 HLB.out)) ?_
    refine Rt.yc (Rt.y_bin (by kernel_rfl) rfl (fun w => neqB bid bid HLB.out HLB.out _ H4.out w)) ?_
    refine Rt.yc (Rt.y_pick false (by kernel_rfl) rfl (by kernel_rfl) (by kernel_rfl)) ?_
    refine Rt.yc (Rt.y_move (by kernel_rfl) rfl (by kernel_rfl)) ?_
    refine Rt.yc (Rt.y_move (by kernel_rfl) rfl (by kernel_rfl)) ?_
    refine Rt.yc (Rt.y_nil (by kernel_rfl) rfl (by kernel_rfl)) ?_
    refine Rt.yc (Rt.y_field 0 0 (by kernel_rfl) rfl (by kernel_rfl) Yba.underlying112 rfl (by kernel_rfl) rfl) ?_
    refine Rt.yc (Rt.y_load mb 0 (by kernel_rfl) rfl (by kernel_rfl) Yba.isAgg3 (fun w h => h.1.1)) ?_
    refine Rt.yc (Rt.y_bin (by kernel_rfl) rfl (fun w => lssI s 1 _ H5.out w)) ?_
    refine Rt.yc (Rt.y_pick false (by kernel_rfl) rfl (by kernel_rfl) (by kernel_rfl)) ?_
    refine Rt.yc (Rt.y_move (by kernel_rfl) rfl (by kernel_rfl)) ?_
    refine Rt.yc (Rt.y_move (by kernel_rfl) rfl (by kernel_rfl)) ?_
    refine Rt.yc (Rt.y_nil (by kernel_rfl) rfl (by kernel_rfl)) ?_
    refine Rt.yc (Rt.y_field 0 0 (by kernel_rfl) rfl (by kernel_rfl) Yba.underlying112 rfl (by kernel_rfl) rfl) ?_
    refine Rt.yc (Rt.y_load mb 0 (by kernel_rfl) rfl (by kernel_rfl) Yba.isAgg3 (fun w h => h.1.1)) ?_
    refine Rt.yc (Rt.y_bin (by kernel_rfl) rfl (fun w => gtrI s 3 _ H6.out w)) ?_
    refine Rt.yc (Rt.y_pick false (by kernel_rfl) rfl (by kernel_rfl) (by kernel_rfl)) ?_
    exact Rt.ye
  with_reducible refine Rt.done ?_ ?_ 0
  · kernel_rfl
  simp only [Rt.putL, Act.put, List.setIfInBounds_toArray, List.set_cons_succ, List.set_cons_zero]
  go_upto_region 2 with fail
  refine Rt.regionL (fun w' => w'.cell? ⟨mb, 0, none⟩ = some (.int .i64 (s : Int)) ∧ w'.cell? ⟨rb, 97 + s, none⟩ = some (.pointer (some ⟨vb, 0, none⟩))) [some (.pointer (some ⟨rb, 0, none⟩)), some (.pointer (some ⟨mb, 0, none⟩)), some (.pointer (some ⟨mb, 0, none⟩)), some (.pointer (some ⟨mb, 0, none⟩)), some (.int .i64 (s : Int)), some (.pointer (some ⟨rb, 0, none⟩)), some (.pointer (some ⟨rb, 97, none⟩)), some (.pointer (some ⟨rb, 97 + s, none⟩)), some (.pointer (some ⟨vb, 0, none⟩)), some (.pointer (some ⟨vb, 0, none⟩))] 0
    (by kernel_rfl) (by kernel_rfl) (by kernel_rfl) (by kernel_rfl) (by kernel_rfl) (R2S.out w1 hb1') ?_ ?_
  · skip
    refine Rt.yc (Rt.y_move (by kernel_rfl) rfl (by kernel_rfl)) ?_
    refine Rt.yc (Rt.y_move (by kernel_rfl) rfl (by kernel_rfl)) ?_
    refine Rt.yc (Rt.y_nil (by kernel_rfl) rfl (by kernel_rfl)) ?_
    refine Rt.yc (Rt.y_field 0 0 (by kernel_rfl) rfl (by kernel_rfl) Yba.underlying112 rfl (by kernel_rfl) rfl) ?_
    refine Rt.yc (Rt.y_load mb 0 (by kernel_rfl) rfl (by kernel_rfl) Yba.isAgg3 (fun w h => h.1)) ?_
    refine Rt.yc (Rt.y_nil (by kernel_rfl) rfl (by kernel_rfl)) ?_
    refine Rt.yc (Rt.y_field 3 0 (by kernel_rfl) rfl (by kernel_rfl) Yba.underlying72 rfl (by kernel_rfl) rfl) ?_
    refine Rt.yc (y_indexv s (by kernel_rfl) rfl (by kernel_rfl) (by kernel_rfl) Yba.underlying56 (fun w => by kernel_rfl) HS4.out rfl) ?_
    refine Rt.yc (Rt.y_load rb (97 + s) (by kernel_rfl) rfl (by kernel_rfl) Yba.isAgg55 (fun w h => h.2)) ?_
    refine Rt.yc (Rt.y_assign (by kernel_rfl) rfl (by kernel_rfl)) ?_
    exact Rt.ye
  with_reducible refine Rt.done ?_ ?_ 0
  · kernel_rfl
  simp only [Rt.putL, Act.put, List.setIfInBounds_toArray, List.set_cons_succ, List.set_cons_zero]
  have hb3 : Below w.heap.size w w1.drew.drew := hb1'.drew.drew
  go_upto_region 3 with fail
  refine Rt.regionL (fun w' => w'.cell? ⟨mb, 35, none⟩ = some (.slice ps ns cs)) [some (.pointer (some ⟨rb, 0, none⟩)), some (.int .i64 (fr : Int)), some (.pointer (some ⟨mb, 0, none⟩)), none, some (.pointer (some ⟨mb, 0, none⟩)), some (.pointer (some ⟨mb, 0, none⟩)), some (.pointer (some ⟨mb, 35, none⟩)), some (.slice ps ns cs)] 13
    (by kernel_rfl) (by kernel_rfl) (by kernel_rfl) (by kernel_rfl) (by kernel_rfl) (S3.out _ hb3) ?_ ?_
  · skip
    refine Rt.yc (Rt.y_move (by kernel_rfl) rfl (by kernel_rfl)) ?_
    refine Rt.yc (Rt.y_move (by kernel_rfl) rfl (by kernel_rfl)) ?_
    refine Rt.yc (Rt.y_move (by kernel_rfl) rfl (by kernel_rfl)) ?_
    refine Rt.yn ?_
    refine Rt.yc (Rt.y_move (by kernel_rfl) rfl (by kernel_rfl)) ?_
    refine Rt.yc (Rt.y_nil (by kernel_rfl) rfl (by kernel_rfl)) ?_
    refine Rt.yc (Rt.y_field 0 0 (by kernel_rfl) rfl (by kernel_rfl) Yba.underlying112 rfl (by kernel_rfl) rfl) ?_
    refine Rt.yc (Rt.y_load mb 35 (by kernel_rfl) rfl (by kernel_rfl) Yba.isAgg37 (fun w h => h)) ?_
    exact Rt.ye
  refine Rt.oneL 3 (by kernel_rfl) rfl (by kernel_rfl) ?_
  with_reducible refine Rt.wp_call (vs := #[(.pointer (some ⟨mb, 0, none⟩))]) rfl ?_ (Yba.call25 _) ?_
  · kernel_rfl
  refine (SAYS.out _ hb3).mono ?_
  rintro x w4 ⟨v4, rfl, ho4, hb4⟩
  obtain ⟨gs, c4, rfl⟩ := own71 ho4
  have hb4' : Below w.heap.size w w4 := hb3.trans (hb4.mono hb3.size)
  refine ⟨_, rfl, S3.out _ hb4', ?_⟩
  refine Rt.oneL 8 (by kernel_rfl) rfl (by kernel_rfl) ?_
  with_reducible refine Rt.wp_call (vs := #[(.pointer (some ⟨rb, 0, none⟩)), .int .i64 (fr : Int), .slice (some ⟨gs, 0, none⟩) 71 c4, (.slice ps ns cs)]) rfl ?_ (Yba.call24 _) ?_
  · kernel_rfl
  refine (SIGN.out gs c4 w4 hb4' (rw_own ho4 hb3.size)).mono ?_
  rintro x w5 ⟨ρ5, rfl, rep5, chg5⟩
  have chg5w : Chg ρ ρ5 (fun r => 1 ≤ r ∧ r ≤ 17) w w5 := ((Chg.of_below (R := fun r => 1 ≤ r ∧ r ≤ 17) hb4' 18)).trans (chg5.mono (fun r h => by omega))
  have s5 := S5.out w5 ρ5 chg5w
  refine ⟨_, rfl, s5, ?_⟩
  refine Rt.moreL [none, none, none, none, none, none, none, none, none, some (.bool false), some (.bool false), some (.pointer (some ⟨vb, 0, none⟩)), some (.int .i64 (fr : Int)), some (.pointer (some ⟨mb, 0, none⟩)), some (.pointer (some ⟨mb, 0, none⟩)), some (.pointer (some ⟨mb, 35, none⟩)), some (.slice ps ns cs)] 3 (by kernel_rfl) (by kernel_rfl) (by kernel_rfl) (by kernel_rfl) s5 ?_ ?_
  · refine Rt.yn (Rt.yn (Rt.yn (Rt.yn (Rt.yn (Rt.yn (Rt.yn (Rt.yn (Rt.yn ?_))))))))
    refine Rt.yc (Rt.y_not (t := true) (by kernel_rfl) rfl (by kernel_rfl)) ?_
    refine Rt.yc (Rt.y_move (by kernel_rfl) rfl (by kernel_rfl)) ?_
    refine Rt.yc (Rt.y_move (by kernel_rfl) rfl (by kernel_rfl)) ?_
    refine Rt.yc (Rt.y_move (by kernel_rfl) rfl (by kernel_rfl)) ?_
    refine Rt.yc (Rt.y_move (by kernel_rfl) rfl (by kernel_rfl)) ?_
    refine Rt.yc (Rt.y_nil (by kernel_rfl) rfl (by kernel_rfl)) ?_
    refine Rt.yc (Rt.y_field 0 0 (by kernel_rfl) rfl (by kernel_rfl) Yba.underlying112 rfl (by kernel_rfl) rfl) ?_
    refine Rt.yc (Rt.y_load mb 35 (by kernel_rfl) rfl (by kernel_rfl) Yba.isAgg37 (fun w h => h)) ?_
    exact Rt.ye
  refine Rt.oneL 17 (by kernel_rfl) rfl (by kernel_rfl) ?_
  with_reducible refine Rt.wp_call (vs := #[(.pointer (some ⟨vb, 0, none⟩)), .int .i64 (fr : Int), (.slice ps ns cs)]) rfl ?_ (Yba.call26 _) ?_
  · kernel_rfl
  refine (ADD.out w5 ρ5 rep5).mono ?_
  rintro x w6 ⟨rfl, rep6, chg6⟩
  have chg6w : Chg ρ ρ5 (fun r => 1 ≤ r ∧ r ≤ 17) w w6 := chg5w.trans chg6
  have s6 := S5.out w6 ρ5 chg6w
  refine ⟨_, rfl, s6, ?_⟩
  refine Rt.moreL [none, none, none, none, none, none, none, none, none, none, none, none, none, none, none, none, none, none, some (.bool false), some (.bool false)] 0 (by kernel_rfl) (by kernel_rfl) (by kernel_rfl) (by kernel_rfl) s6 ?_ ?_
  · refine Rt.yn (Rt.yn (Rt.yn (Rt.yn (Rt.yn (Rt.yn (Rt.yn (Rt.yn (Rt.yn (Rt.yn (Rt.yn (Rt.yn (Rt.yn (Rt.yn (Rt.yn (Rt.yn (Rt.yn (Rt.yn ?_)))))))))))))))))
    refine Rt.yc (Rt.y_not (t := true) (by kernel_rfl) rfl (by kernel_rfl)) ?_
    refine Rt.yc (Rt.y_pick false (by kernel_rfl) rfl (by kernel_rfl) (by kernel_rfl)) ?_
    exact Rt.ye
  with_reducible refine Rt.done ?_ ?_ 0
  · kernel_rfl
  simp only [Rt.putL, Act.put, List.setIfInBounds_toArray, List.set_cons_succ, List.set_cons_zero]
  have rep6d : Rep ρ5 cf ep bid G2 w6.drew := rep6.chg (Chg.drew (R := fun _ => False) w6) (fun _ _ _ q => q)
  have chg6d : Chg ρ ρ5 (fun r => 1 ≤ r ∧ r ≤ 17) w w6.drew := chg6w.trans (Chg.drew w6)
  go_upto_region 4 with fail
  refine Rt.regionL (R4 rb vb n f kb cnt pay) [some (.pointer (some ⟨vb, 0, none⟩)), some (.pointer (some ⟨vb, 0, none⟩)), some (.pointer (some ⟨vb, 0, none⟩)), some (.pointer (some ⟨vb, 1, none⟩)), some (.int .i64 (cnt : Nat)), some (.pointer (some ⟨rb, 0, none⟩)), some (.pointer (some ⟨rb, 0, none⟩)), some (.pointer (some ⟨rb, 1, none⟩)), some (.agg [.int .i64 n, .int .i64 f, .iface 96 (.pointer (some ⟨kb, 0, none⟩)), pay].toArray)] 2
    (by kernel_rfl) (by kernel_rfl) (by kernel_rfl) (by kernel_rfl) (by kernel_rfl) (S4.out _ _ rep6d) ?_ ?_
  · skip
    refine Rt.yc (Rt.y_move (by kernel_rfl) rfl (by kernel_rfl)) ?_
    refine Rt.yc (Rt.y_nil (by kernel_rfl) rfl (by kernel_rfl)) ?_
    refine Rt.yc (Rt.y_field 1 0 (by kernel_rfl) rfl (by kernel_rfl) Yba.underlying103 rfl (by kernel_rfl) rfl) ?_
    refine Rt.yc (Rt.y_field 0 0 (by kernel_rfl) rfl (by kernel_rfl) Yba.underlying101 rfl (by kernel_rfl) rfl) ?_
    refine Rt.yc (Rt.y_load vb 1 (by kernel_rfl) rfl (by kernel_rfl) Yba.isAgg3 (fun w h => h.1)) ?_
    refine Rt.yc (Rt.y_move (by kernel_rfl) rfl (by kernel_rfl)) ?_
    refine Rt.yc (Rt.y_nil (by kernel_rfl) rfl (by kernel_rfl)) ?_
    refine Rt.yc (Rt.y_field 3 0 (by kernel_rfl) rfl (by kernel_rfl) Yba.underlying72 rfl (by kernel_rfl) rfl) ?_
    refine Rt.yc (Rt.y_loadm rb 1 (by kernel_rfl) rfl (by kernel_rfl) (fun w h => h.2) Yba.underlying49 rfl (by kernel_rfl)) ?_
    exact Rt.ye
  refine Rt.oneL 9 (by kernel_rfl) rfl (by kernel_rfl) ?_
  with_reducible refine Rt.wp_call (vs := #[.agg [.int .i64 n, .int .i64 f, .iface 96 (.pointer (some ⟨kb, 0, none⟩)), pay].toArray]) rfl ?_ (Yba.call27 _) ?_
  · kernel_rfl
  refine (QUO.out _).mono ?_
  rintro x w7 ⟨rfl, hb7⟩
  have rep7 : Rep (rx ρ5 w6.drew 18) cf ep bid G2 w7 := rep6d.chg (Chg.of_below (R := fun _ => False) hb7 18) (fun _ _ _ q => q)
  have chg7 : Chg ρ (rx ρ5 w6.drew 18) (fun r => 1 ≤ r ∧ r ≤ 17) w w7 := chg6d.trans (Chg.of_below hb7 18)
  generalize rx ρ5 w6.drew 18 = ρ7 at *
  clear rep6d chg6d hb7 rep6 chg6 chg6w s6 rep5 chg5 chg5w s5
  refine ⟨_, rfl, S4.out _ _ rep7, ?_⟩
  refine Rt.moreL [none, none, none, none, none, none, none, none, none, none, some (.bool true)] 0 (by kernel_rfl) (by kernel_rfl) (by kernel_rfl) (by kernel_rfl) (S4.out _ _ rep7) ?_ ?_
  · refine Rt.yn (Rt.yn (Rt.yn (Rt.yn (Rt.yn (Rt.yn (Rt.yn (Rt.yn (Rt.yn (Rt.yn ?_)))))))))
    refine Rt.yc (Rt.y_bin (by kernel_rfl) rfl (fun w => eqlI (cnt : Int) ((n - f : Nat) : Int) _ HQ.out w)) ?_
    exact Rt.ye
  with_reducible refine Rt.done ?_ ?_ 0
  · kernel_rfl
  simp only [Rt.putL, Act.put, List.setIfInBounds_toArray, List.set_cons_succ, List.set_cons_zero]
  have rep7d : Rep ρ7 cf ep bid G2 w7.drew := rep7.chg (Chg.drew (R := fun _ => False) w7) (fun _ _ _ q => q)
  have chg7d : Chg ρ ρ7 (fun r => 1 ≤ r ∧ r ≤ 17) w w7.drew := chg7.trans (Chg.drew w7)
  clear rep7 chg7
  obtain ⟨Z, hZ, AL⟩ := alloc32
  have AL : Hid (∀ w : World, (Instr.alloc 32 true (.tuple #[])).run Yba.prog w = .ok (.pointer (some ⟨w.heap.size, 0, none⟩)) (w.alloc (.cells Z.toArray 32))) := AL
  go_upto_region 5 with fail
  refine Rt.regionL (GateS mb bb s ep vw ep vw bid bid) [some (.pointer (some ⟨mb, 0, none⟩)), some (.pointer (some ⟨mb, 0, none⟩)), some (.pointer (some ⟨mb, 0, none⟩)), some (.int .i64 s), some (.pointer (some ⟨bb, 0, none⟩)), some (.pointer (some ⟨bb, 0, none⟩)), some (.pointer (some ⟨bb, 0, none⟩)), some (.int .i64 ep), some (.pointer (some ⟨bb, 0, none⟩)), some (.pointer (some ⟨bb, 0, none⟩)), some (.pointer (some ⟨bb, 1, none⟩)), some (.int .i64 vw), some (.pointer (some ⟨bb, 0, none⟩)), some (.pointer (some ⟨bb, 0, none⟩)), some (.pointer (some ⟨bb, 36, none⟩)), some (.agg (u8s bid).toArray), some (.pointer (some ⟨vb, 0, none⟩))] 4
    (by kernel_rfl) (by kernel_rfl) (by kernel_rfl) (by kernel_rfl) (by kernel_rfl) (G5.out _ _ chg7d) ?_ ?_
  · skip
    refine Rt.yc (Rt.y_move (by kernel_rfl) rfl (by kernel_rfl)) ?_
    refine Rt.yc (Rt.y_nil (by kernel_rfl) rfl (by kernel_rfl)) ?_
    refine Rt.yc (Rt.y_field 0 0 (by kernel_rfl) rfl (by kernel_rfl) Yba.underlying112 rfl (by kernel_rfl) rfl) ?_
    refine Rt.yc (Rt.y_load mb 0 (by kernel_rfl) rfl (by kernel_rfl) Yba.isAgg3 (fun w h => h.1.1)) ?_
    refine Rt.yc (Rt.y_move (by kernel_rfl) rfl (by kernel_rfl)) ?_
    refine Rt.yc (Rt.y_nil (by kernel_rfl) rfl (by kernel_rfl)) ?_
    refine Rt.yc (Rt.y_field 0 0 (by kernel_rfl) rfl (by kernel_rfl) Yba.underlying44 rfl (by kernel_rfl) rfl) ?_
    refine Rt.yc (Rt.y_load bb 0 (by kernel_rfl) rfl (by kernel_rfl) Yba.isAgg3 (fun w h => h.2.1)) ?_
    refine Rt.yc (Rt.y_move (by kernel_rfl) rfl (by kernel_rfl)) ?_
    refine Rt.yc (Rt.y_nil (by kernel_rfl) rfl (by kernel_rfl)) ?_
    refine Rt.yc (Rt.y_field 0 0 (by kernel_rfl) rfl (by kernel_rfl) Yba.underlying44 rfl (by kernel_rfl) rfl) ?_
    refine Rt.yc (Rt.y_load bb 1 (by kernel_rfl) rfl (by kernel_rfl) Yba.isAgg3 (fun w h => h.2.2.1)) ?_
    refine Rt.yc (Rt.y_move (by kernel_rfl) rfl (by kernel_rfl)) ?_
    refine Rt.yc (Rt.y_nil (by kernel_rfl) rfl (by kernel_rfl)) ?_
    refine Rt.yc (Rt.y_field 31 0 (by kernel_rfl) rfl (by kernel_rfl) Yba.underlying44 rfl (by kernel_rfl) rfl) ?_
    refine Rt.yc (Rt.y_loadm bb 36 (by kernel_rfl) rfl (by kernel_rfl) (fun w h => h.2.2.2) Yba.underlying30 rfl (inf30 HLB.out)) ?_
    refine Rt.yc (Rt.y_move (by kernel_rfl) rfl (by kernel_rfl)) ?_
    exact Rt.ye
  refine Rt.twoL 17 19 (by kernel_rfl) rfl rfl (by kernel_rfl) (by kernel_rfl) ?_ ?_
  · skip
    with_reducible refine Rt.wp_call (vs := #[(.pointer (some ⟨vb, 0, none⟩))]) rfl ?_ (Yba.call28 _) ?_
    · kernel_rfl
    refine (LST.out _ _ rep7d).mono ?_
    rintro x w8 ⟨v8, m8, rfl, ho8, hb8⟩
    have row8 : Rw (rx ρ7 w7.drew 18) 18 39 2 w8 v8 m8 _ := rw_own ho8 (Nat.le_refl _)
    have rep8 : Rep (rx ρ7 w7.drew 18) cf ep bid G2 w8 := rep7d.chg (Chg.of_below (R := fun _ => False) hb8 18) (fun _ _ _ q => q)
    have chg8 : Chg ρ (rx ρ7 w7.drew 18) (fun r => 1 ≤ r ∧ r ≤ 17) w w8 := chg7d.trans (Chg.of_below hb8 18)
    clear rep7d chg7d ho8 hb8
    generalize rx ρ7 w7.drew 18 = ρ7' at *
    obtain ⟨p8, c8, rfl⟩ := row8.shape
    refine ⟨_, rfl, G5.out _ _ chg8, ?_⟩
    refine Rt.moreL [none, none, none, none, none, none, none, none, none, none, none, none, none, none, none, none, none, none, some (.agg (qcL s ep vw bid (.slice p8 m8 c8)).toArray)] 2 (by kernel_rfl) (by kernel_rfl) (by kernel_rfl) (by kernel_rfl) (G5.out _ _ chg8) ?_ ?_
    · refine Rt.yn (Rt.yn (Rt.yn (Rt.yn (Rt.yn (Rt.yn (Rt.yn (Rt.yn (Rt.yn (Rt.yn (Rt.yn (Rt.yn (Rt.yn (Rt.yn (Rt.yn (Rt.yn (Rt.yn (Rt.yn ?_)))))))))))))))))
      refine Rt.yc (Rt.y_build (built32 s ep vw bid HLB.out p8 m8 c8) (by kernel_rfl) rfl (by kernel_rfl)) ?_
      exact Rt.ye
    refine Rt.oneL 19 (by kernel_rfl) rfl (by kernel_rfl) ?_
    with_reducible refine wp_alloc rfl (AL.out w8) ?_
    have q8 : Q5 ρ (rx ρ7' w8 19) cf ep bid G2 w (w8.alloc (.cells Z.toArray 32)) w8.heap.size Z (.slice p8 m8 c8) m8 _ := ⟨rep8.chg (Chg.alloc (R := fun _ => False) w8 _ 19) (fun _ _ _ q => q), row8.chg (Chg.alloc (R := fun _ => False) w8 _ 19) (fun q => q), Bk.new ρ7' w8 Z.toArray 32 19, chg8.trans (Chg.alloc w8 _ 19), chg8.size⟩
    refine ⟨G5.out _ _ q8.c, ?_⟩
    clear rep8 row8 chg8
    generalize rx ρ7' w8 19 = ρ8 at *
    generalize w8.alloc (.cells Z.toArray 32) = W8 at *
    generalize w8.heap.size = qb at *
    refine Rt.oneL 20 (by kernel_rfl) rfl (by kernel_rfl) ?_
    have hzl : Z.length = (qcL s ep vw bid (.slice p8 m8 c8)).length := by rw [hZ, qcL_length _ _ _ _ _ HLB.out]
    have q9 := (q8.fill _ hzl).1
    have th9 := (q8.fill _ hzl).2
    with_reducible refine Rt.wp_storem (cs := qcL s ep vw bid (.slice p8 m8 c8)) qb 0 rfl ?_ ?_ th9 ?_ ?_ ?_
    · kernel_rfl
    · kernel_rfl
    · rw [qcL_length _ _ _ _ _ HLB.out]
      kernel_rfl
    · exact qcL_one _ _ _ _ _ _ _
    refine ⟨G5.out _ _ q9.c, ?_⟩
    generalize W8.setCells qb 0 (qcL s ep vw bid (.slice p8 m8 c8)) = w9 at *
    clear q8 th9 hZ AL hzl
    with_reducible refine Rt.done ?_ ?_ 0
    · kernel_rfl
    simp only [Rt.putL, Act.put, List.setIfInBounds_toArray, List.set_cons_succ, List.set_cons_zero]
    have hq9 := q9.b
    have SQ : Hid (∀ w' ρ', Chg ρ8 ρ' (fun r => 1 ≤ r ∧ r ≤ 17) w9 w' → w'.rangeAt qb 0 (qcL s ep vw bid (.slice p8 m8 c8)) ∧ w'.cell? ⟨qb, 35, none⟩ = some (.slice p8 m8 c8)) := fun w' ρ' h => qc_at (hq9.chg h (by decide)) HLB.out
    have SAYQ : Hid (∀ w', Calls Yba.prog 30 #[.agg (qcL s ep vw bid (.slice p8 m8 c8)).toArray] w' (OwnP w'.heap.size w' 71 (u8s (stL s ep vw bid)))) := fun w' => qc_says s ep vw bid _ HLB.out w'
    have I36 : Hid ((Yba.prog.info? 32).map (·.size) = some (qcL s ep vw bid (.slice p8 m8 c8)).length) := by
      unfold Hid
      rw [qcL_length _ _ _ _ _ HLB.out]
      kernel_rfl
    have HB123 : Hid (Yba.prog.built 123 [(0, .agg (qcL s ep vw bid (.slice p8 m8 c8)).toArray), (1, .pointer (some ⟨bb, 0, none⟩))] = some (qcL s ep vw bid (.slice p8 m8 c8) ++ [Value.pointer (some ⟨bb, 0, none⟩)]).toArray) := built123 _ (qcL_length _ _ _ _ _ HLB.out) _
    clear hq9
    go_upto_region 6 with fail
    refine Rt.regionL (fun w' => w'.rangeAt qb 0 (qcL s ep vw bid (.slice p8 m8 c8)) ∧ w'.cell? ⟨qb, 35, none⟩ = some (.slice p8 m8 c8)) [some (.pointer (some ⟨rb, 0, none⟩)), some (.pointer (some ⟨rb, 0, none⟩)), some (.pointer (some ⟨rb, 108, none⟩)), some (.agg (qcL s ep vw bid (.slice p8 m8 c8)).toArray), none, some (.pointer (some ⟨qb, 35, none⟩)), some (.slice p8 m8 c8)] 2
      (by kernel_rfl) (by kernel_rfl) (by kernel_rfl) (by kernel_rfl) (by kernel_rfl) (SQ.out _ _ (Chg.drew w9)) ?_ ?_
    · skip
      refine Rt.yc (Rt.y_move (by kernel_rfl) rfl (by kernel_rfl)) ?_
      refine Rt.yc (Rt.y_nil (by kernel_rfl) rfl (by kernel_rfl)) ?_
      refine Rt.yc (Rt.y_field 0 0 (by kernel_rfl) rfl (by kernel_rfl) Yba.underlying72 rfl (by kernel_rfl) rfl) ?_
      refine Rt.yc (Rt.y_loadm qb 0 (by kernel_rfl) rfl (by kernel_rfl) (fun w h => h.1) Yba.underlying32 rfl I36.out) ?_
      refine Rt.yn ?_
      refine Rt.yc (Rt.y_field 0 0 (by kernel_rfl) rfl (by kernel_rfl) Yba.underlying32 rfl (by kernel_rfl) rfl) ?_
      refine Rt.yc (Rt.y_load qb 35 (by kernel_rfl) rfl (by kernel_rfl) Yba.isAgg26 (fun w h => h.2)) ?_
      exact Rt.ye
    refine Rt.oneL 4 (by kernel_rfl) rfl (by kernel_rfl) ?_
    with_reducible refine Rt.wp_call (vs := #[.agg (qcL s ep vw bid (.slice p8 m8 c8)).toArray]) rfl ?_ (Yba.call30 _) ?_
    · kernel_rfl
    refine (SAYQ.out _).mono ?_
    rintro x w10 ⟨v10, rfl, ho10, hb10⟩
    obtain ⟨g10, c10, rfl⟩ := own71 ho10
    have c910 : Chg ρ8 (rx ρ8 w9.drew 18) (fun r => 1 ≤ r ∧ r ≤ 17) w9 w10 := (Chg.drew w9).trans (Chg.of_below hb10 18)
    have c910F : Chg ρ8 (rx ρ8 w9.drew 18) (fun _ => False) w9 w10 := (Chg.drew w9).trans (Chg.of_below hb10 18)
    have rep10 := q9.rep.chg c910F (fun _ _ _ q => q)
    have st10 : Rw (rx ρ8 w9.drew 18) 18 5 1 w10 (.slice (some ⟨g10, 0, none⟩) 71 c10) 71 (u8s (stL s ep vw bid)) := rw_own ho10 (Nat.le_refl _)
    have row10 := q9.row.chg c910F (fun q => q)
    have chg10 := q9.c.trans c910
    generalize rx ρ8 w9.drew 18 = ρ10 at *
    refine ⟨_, rfl, SQ.out _ _ c910, ?_⟩
    refine Rt.oneL 7 (by kernel_rfl) rfl (by kernel_rfl) ?_
    with_reducible refine Rt.wp_call (vs := #[(.pointer (some ⟨rb, 108, none⟩)), .slice (some ⟨g10, 0, none⟩) 71 c10, .slice p8 m8 c8]) rfl ?_ (Yba.call29 _) ?_
    · kernel_rfl
    refine (REM.out w10 ρ10 g10 c10 p8 m8 c8 rep10 st10).mono ?_
    rintro x w11 ⟨rfl, ρ11, rep11, c1011⟩
    have row11 := row10.chg c1011 (by decide)
    have chg11 := chg10.trans c1011
    have sq11 := SQ.out w11 ρ11 (c910.trans c1011)
    refine ⟨_, rfl, sq11, ?_⟩
    with_reducible refine Rt.done ?_ ?_ 0
    · kernel_rfl
    simp only [Rt.putL, Act.put, List.setIfInBounds_toArray, List.set_cons_succ, List.set_cons_zero]
    clear c910 c910F rep10 st10 row10 chg10 ho10 hb10 c1011
    go_upto_region 7 with fail
    have sq11a : Hid _ := sq11.1
    clear sq11
    have rep12 := rep11.chg (Chg.alloc (R := fun _ => False) w11 (.cells (qcL s ep vw bid (.slice p8 m8 c8) ++ [Value.pointer (some ⟨bb, 0, none⟩)]).toArray 123) 18) (fun _ _ _ q => q)
    have row12 := row11.chg (Chg.alloc (R := fun _ => False) w11 (.cells (qcL s ep vw bid (.slice p8 m8 c8) ++ [Value.pointer (some ⟨bb, 0, none⟩)]).toArray 123) 18) (fun q => q)
    have bk12 := Bk.new ρ11 w11 (qcL s ep vw bid (.slice p8 m8 c8) ++ [Value.pointer (some ⟨bb, 0, none⟩)]).toArray 123 18
    have chg12 : Chg ρ (rx ρ11 w11 18) (fun r => 1 ≤ r ∧ r ≤ 17) w (w11.alloc (.cells (qcL s ep vw bid (.slice p8 m8 c8) ++ [Value.pointer (some ⟨bb, 0, none⟩)]).toArray 123)) := chg11.trans (Chg.alloc w11 _ 18)
    have FB0 := BRD.out (w11.alloc (.cells (qcL s ep vw bid (.slice p8 m8 c8) ++ [Value.pointer (some ⟨bb, 0, none⟩)]).toArray 123)) (rx ρ11 w11 18) w11.heap.size p8 m8 c8 rep12 ⟨bk12, row12⟩
    have FB : Hid (Calls Yba.prog 31 _ _ _) := FB0
    clear FB0
    clear rep12 row12 bk12 rep11 row11 chg11 q9 SQ
    generalize rx ρ11 w11 18 = ρ12 at *
    generalize hw12 : w11.alloc (.cells (qcL s ep vw bid (.slice p8 m8 c8) ++ [Value.pointer (some ⟨bb, 0, none⟩)]).toArray 123) = w12 at *
    refine wp_region_lit ?_
    with_reducible refine wpList_val rfl (.pointer (some ⟨rb, 0, none⟩)) ?_ ?_
    · kernel_rfl
    with_reducible refine wpList_load_mid rfl 32 (.tmp 8) rfl qb 0 ?_ (qcL s ep vw bid (.slice p8 m8 c8)) _ ?_ Yba.underlying32 ?_ ?_ ?_
    · kernel_rfl
    · exact sq11a.out
    · rfl
    · exact I36.out
    with_reducible refine wpList_val rfl (.pointer (some ⟨bb, 0, none⟩)) ?_ ?_
    · kernel_rfl
    with_reducible refine wpList_build_any rfl 123 rfl HB123.out ?_ ?_
    · kernel_rfl
    with_reducible refine wpList_box_any (c := (qcL s ep vw bid (.slice p8 m8 c8) ++ [Value.pointer (some ⟨bb, 0, none⟩)]).toArray) rfl 123 (.tmp 137) rfl ?_ ?_
    · kernel_rfl
    rw [hw12]
    with_reducible refine wpList_val rfl (.iface 120 (.pointer (some ⟨w11.heap.size, 0, none⟩))) ?_ ?_
    · kernel_rfl
    refine wpList_plain rfl fun _ hK => ?_
    with_reducible refine Rt.wp_call (vs := #[.pointer (some ⟨rb, 0, none⟩), .iface 120 (.pointer (some ⟨w11.heap.size, 0, none⟩))]) rfl ?_ (Yba.call31 _) ?_
    · kernel_rfl
    refine FB.out.mono ?_
    rintro x w13 ⟨rfl, ρ13, q13, e1, e2, rep13, chg13⟩
    refine ⟨_, rfl, hK _ _ ?_⟩
    simp only [Act.put, List.setIfInBounds_toArray, List.set_cons_succ, List.set_cons_zero]
    go_wp2
    go_end0
    exact ⟨rfl, ρ13, q13, e1, e2, rep13, chg12.trans chg13⟩
  · skip
    with_reducible refine wp_alloc rfl (AL.out w7.drew) ?_
    have rep7e : Rep (rx ρ7 w7.drew 19) cf ep bid G2 (w7.drew.alloc (.cells Z.toArray 32)) := rep7d.chg (Chg.alloc (R := fun _ => False) _ _ 19) (fun _ _ _ q => q)
    have chg7e : Chg ρ (rx ρ7 w7.drew 19) (fun r => 1 ≤ r ∧ r ≤ 17) w (w7.drew.alloc (.cells Z.toArray 32)) := chg7d.trans (Chg.alloc _ _ 19)
    have bk7 := Bk.new ρ7 w7.drew Z.toArray 32 19
    have hsz : w.heap.size ≤ w7.drew.heap.size := chg7d.size
    refine ⟨G5.out _ _ chg7e, ?_⟩
    clear rep7d chg7d
    generalize rx ρ7 w7.drew 19 = ρ7' at *
    generalize w7.drew.alloc (.cells Z.toArray 32) = w7a at *
    have hqq : ∃ qb, qb = w7.drew.heap.size := ⟨_, rfl⟩
    obtain ⟨qb, hqb⟩ := hqq
    have hqb' : w7.heap.size = qb := hqb.symm
    rw [← hqb] at bk7 hsz
    refine Rt.oneL 17 (by kernel_rfl) rfl (by kernel_rfl) ?_
    with_reducible refine Rt.wp_call (vs := #[(.pointer (some ⟨vb, 0, none⟩))]) rfl ?_ (Yba.call28 _) ?_
    · kernel_rfl
    refine (LST.out _ _ rep7e).mono ?_
    rintro x W8 ⟨v8, m8, rfl, ho8, hb8⟩
    have row8 : Rw (rx ρ7' w7a 18) 18 39 2 W8 v8 m8 _ := rw_own ho8 (Nat.le_refl _)
    obtain ⟨p8, c8, rfl⟩ := row8.shape
    have q8 : Q5 ρ (rx ρ7' w7a 18) cf ep bid G2 w W8 qb Z (.slice p8 m8 c8) m8 _ := ⟨rep7e.chg (Chg.of_below (R := fun _ => False) hb8 18) (fun _ _ _ q => q), row8, bk7.chg (Chg.of_below (R := fun _ => False) hb8 18) (fun q => q), chg7e.trans (Chg.of_below hb8 18), hsz⟩
    clear rep7e chg7e ho8 hb8 row8 bk7 hsz
    generalize rx ρ7' w7a 18 = ρ8 at *
    refine ⟨_, rfl, G5.out _ _ q8.c, ?_⟩
    refine Rt.moreL [none, none, none, none, none, none, none, none, none, none, none, none, none, none, none, none, none, none, some (.agg (qcL s ep vw bid (.slice p8 m8 c8)).toArray)] 1 (by kernel_rfl) (by kernel_rfl) (by kernel_rfl) (by kernel_rfl) (G5.out _ _ q8.c) ?_ ?_
    · refine Rt.yn (Rt.yn (Rt.yn (Rt.yn (Rt.yn (Rt.yn (Rt.yn (Rt.yn (Rt.yn (Rt.yn (Rt.yn (Rt.yn (Rt.yn (Rt.yn (Rt.yn (Rt.yn (Rt.yn (Rt.yn ?_)))))))))))))))))
      refine Rt.yc (Rt.y_build (built32 s ep vw bid HLB.out p8 m8 c8) (by kernel_rfl) rfl (by kernel_rfl)) ?_
      exact Rt.ye
    refine Rt.oneL 20 (by kernel_rfl) rfl (by kernel_rfl) ?_
    have hzl : Z.length = (qcL s ep vw bid (.slice p8 m8 c8)).length := by rw [hZ, qcL_length _ _ _ _ _ HLB.out]
    have q9 := (q8.fill _ hzl).1
    have th9 := (q8.fill _ hzl).2
    with_reducible refine Rt.wp_storem (cs := qcL s ep vw bid (.slice p8 m8 c8)) qb 0 rfl ?_ ?_ th9 ?_ ?_ ?_
    · rw [← hqb']
      kernel_rfl
    · kernel_rfl
    · rw [qcL_length _ _ _ _ _ HLB.out]
      kernel_rfl
    · exact qcL_one _ _ _ _ _ _ _
    refine ⟨G5.out _ _ q9.c, ?_⟩
    generalize W8.setCells qb 0 (qcL s ep vw bid (.slice p8 m8 c8)) = w9 at *
    clear q8 th9 hZ AL hzl
    with_reducible refine Rt.done ?_ ?_ 0
    · kernel_rfl
    simp only [Rt.putL, Act.put, List.setIfInBounds_toArray, List.set_cons_succ, List.set_cons_zero]
    (first | rw [hqb'] | rw [← hqb] | skip)
    have hq9 := q9.b
    have SQ : Hid (∀ w' ρ', Chg ρ8 ρ' (fun r => 1 ≤ r ∧ r ≤ 17) w9 w' → w'.rangeAt qb 0 (qcL s ep vw bid (.slice p8 m8 c8)) ∧ w'.cell? ⟨qb, 35, none⟩ = some (.slice p8 m8 c8)) := fun w' ρ' h => qc_at (hq9.chg h (by decide)) HLB.out
    have SAYQ : Hid (∀ w', Calls Yba.prog 30 #[.agg (qcL s ep vw bid (.slice p8 m8 c8)).toArray] w' (OwnP w'.heap.size w' 71 (u8s (stL s ep vw bid)))) := fun w' => qc_says s ep vw bid _ HLB.out w'
    have I36 : Hid ((Yba.prog.info? 32).map (·.size) = some (qcL s ep vw bid (.slice p8 m8 c8)).length) := by
      unfold Hid
      rw [qcL_length _ _ _ _ _ HLB.out]
      kernel_rfl
    have HB123 : Hid (Yba.prog.built 123 [(0, .agg (qcL s ep vw bid (.slice p8 m8 c8)).toArray), (1, .pointer (some ⟨bb, 0, none⟩))] = some (qcL s ep vw bid (.slice p8 m8 c8) ++ [Value.pointer (some ⟨bb, 0, none⟩)]).toArray) := built123 _ (qcL_length _ _ _ _ _ HLB.out) _
    clear hq9
    go_upto_region 6 with fail
    refine Rt.regionL (fun w' => w'.rangeAt qb 0 (qcL s ep vw bid (.slice p8 m8 c8)) ∧ w'.cell? ⟨qb, 35, none⟩ = some (.slice p8 m8 c8)) [some (.pointer (some ⟨rb, 0, none⟩)), some (.pointer (some ⟨rb, 0, none⟩)), some (.pointer (some ⟨rb, 108, none⟩)), some (.agg (qcL s ep vw bid (.slice p8 m8 c8)).toArray), none, some (.pointer (some ⟨qb, 35, none⟩)), some (.slice p8 m8 c8)] 2
      (by kernel_rfl) (by kernel_rfl) (by kernel_rfl) (by kernel_rfl) (by kernel_rfl) (SQ.out _ _ (Chg.drew w9)) ?_ ?_
    · skip
      refine Rt.yc (Rt.y_move (by kernel_rfl) rfl (by kernel_rfl)) ?_
      refine Rt.yc (Rt.y_nil (by kernel_rfl) rfl (by kernel_rfl)) ?_
      refine Rt.yc (Rt.y_field 0 0 (by kernel_rfl) rfl (by kernel_rfl) Yba.underlying72 rfl (by kernel_rfl) rfl) ?_
      refine Rt.yc (Rt.y_loadm qb 0 (by kernel_rfl) rfl (by kernel_rfl) (fun w h => h.1) Yba.underlying32 rfl I36.out) ?_
      refine Rt.yn ?_
      refine Rt.yc (Rt.y_field 0 0 (by kernel_rfl) rfl (by kernel_rfl) Yba.underlying32 rfl (by kernel_rfl) rfl) ?_
      refine Rt.yc (Rt.y_load qb 35 (by kernel_rfl) rfl (by kernel_rfl) Yba.isAgg26 (fun w h => h.2)) ?_
      exact Rt.ye
    refine Rt.oneL 4 (by kernel_rfl) rfl (by kernel_rfl) ?_
    with_reducible refine Rt.wp_call (vs := #[.agg (qcL s ep vw bid (.slice p8 m8 c8)).toArray]) rfl ?_ (Yba.call30 _) ?_
    · kernel_rfl
    refine (SAYQ.out _).mono ?_
    rintro x w10 ⟨v10, rfl, ho10, hb10⟩
    obtain ⟨g10, c10, rfl⟩ := own71 ho10
    have c910 : Chg ρ8 (rx ρ8 w9.drew 18) (fun r => 1 ≤ r ∧ r ≤ 17) w9 w10 := (Chg.drew w9).trans (Chg.of_below hb10 18)
    have c910F : Chg ρ8 (rx ρ8 w9.drew 18) (fun _ => False) w9 w10 := (Chg.drew w9).trans (Chg.of_below hb10 18)
    have rep10 := q9.rep.chg c910F (fun _ _ _ q => q)
    have st10 : Rw (rx ρ8 w9.drew 18) 18 5 1 w10 (.slice (some ⟨g10, 0, none⟩) 71 c10) 71 (u8s (stL s ep vw bid)) := rw_own ho10 (Nat.le_refl _)
    have row10 := q9.row.chg c910F (fun q => q)
    have chg10 := q9.c.trans c910
    generalize rx ρ8 w9.drew 18 = ρ10 at *
    refine ⟨_, rfl, SQ.out _ _ c910, ?_⟩
    refine Rt.oneL 7 (by kernel_rfl) rfl (by kernel_rfl) ?_
    with_reducible refine Rt.wp_call (vs := #[(.pointer (some ⟨rb, 108, none⟩)), .slice (some ⟨g10, 0, none⟩) 71 c10, .slice p8 m8 c8]) rfl ?_ (Yba.call29 _) ?_
    · kernel_rfl
    refine (REM.out w10 ρ10 g10 c10 p8 m8 c8 rep10 st10).mono ?_
    rintro x w11 ⟨rfl, ρ11, rep11, c1011⟩
    have row11 := row10.chg c1011 (by decide)
    have chg11 := chg10.trans c1011
    have sq11 := SQ.out w11 ρ11 (c910.trans c1011)
    refine ⟨_, rfl, sq11, ?_⟩
    with_reducible refine Rt.done ?_ ?_ 0
    · kernel_rfl
    simp only [Rt.putL, Act.put, List.setIfInBounds_toArray, List.set_cons_succ, List.set_cons_zero]
    clear c910 c910F rep10 st10 row10 chg10 ho10 hb10 c1011
    go_upto_region 7 with fail
    have sq11a : Hid _ := sq11.1
    clear sq11
    have rep12 := rep11.chg (Chg.alloc (R := fun _ => False) w11 (.cells (qcL s ep vw bid (.slice p8 m8 c8) ++ [Value.pointer (some ⟨bb, 0, none⟩)]).toArray 123) 18) (fun _ _ _ q => q)
    have row12 := row11.chg (Chg.alloc (R := fun _ => False) w11 (.cells (qcL s ep vw bid (.slice p8 m8 c8) ++ [Value.pointer (some ⟨bb, 0, none⟩)]).toArray 123) 18) (fun q => q)
    have bk12 := Bk.new ρ11 w11 (qcL s ep vw bid (.slice p8 m8 c8) ++ [Value.pointer (some ⟨bb, 0, none⟩)]).toArray 123 18
    have chg12 : Chg ρ (rx ρ11 w11 18) (fun r => 1 ≤ r ∧ r ≤ 17) w (w11.alloc (.cells (qcL s ep vw bid (.slice p8 m8 c8) ++ [Value.pointer (some ⟨bb, 0, none⟩)]).toArray 123)) := chg11.trans (Chg.alloc w11 _ 18)
    have FB0 := BRD.out (w11.alloc (.cells (qcL s ep vw bid (.slice p8 m8 c8) ++ [Value.pointer (some ⟨bb, 0, none⟩)]).toArray 123)) (rx ρ11 w11 18) w11.heap.size p8 m8 c8 rep12 ⟨bk12, row12⟩
    have FB : Hid (Calls Yba.prog 31 _ _ _) := FB0
    clear FB0
    clear rep12 row12 bk12 rep11 row11 chg11 q9 SQ
    generalize rx ρ11 w11 18 = ρ12 at *
    generalize hw12 : w11.alloc (.cells (qcL s ep vw bid (.slice p8 m8 c8) ++ [Value.pointer (some ⟨bb, 0, none⟩)]).toArray 123) = w12 at *
    refine wp_region_lit ?_
    with_reducible refine wpList_val rfl (.pointer (some ⟨rb, 0, none⟩)) ?_ ?_
    · kernel_rfl
    with_reducible refine wpList_load_mid rfl 32 (.tmp 8) rfl qb 0 ?_ (qcL s ep vw bid (.slice p8 m8 c8)) _ ?_ Yba.underlying32 ?_ ?_ ?_
    · kernel_rfl
    · exact sq11a.out
    · rfl
    · exact I36.out
    with_reducible refine wpList_val rfl (.pointer (some ⟨bb, 0, none⟩)) ?_ ?_
    · kernel_rfl
    with_reducible refine wpList_build_any rfl 123 rfl HB123.out ?_ ?_
    · kernel_rfl
    with_reducible refine wpList_box_any (c := (qcL s ep vw bid (.slice p8 m8 c8) ++ [Value.pointer (some ⟨bb, 0, none⟩)]).toArray) rfl 123 (.tmp 137) rfl ?_ ?_
    · kernel_rfl
    rw [hw12]
    with_reducible refine wpList_val rfl (.iface 120 (.pointer (some ⟨w11.heap.size, 0, none⟩))) ?_ ?_
    · kernel_rfl
    refine wpList_plain rfl fun _ hK => ?_
    with_reducible refine Rt.wp_call (vs := #[.pointer (some ⟨rb, 0, none⟩), .iface 120 (.pointer (some ⟨w11.heap.size, 0, none⟩))]) rfl ?_ (Yba.call31 _) ?_
    · kernel_rfl
    refine FB.out.mono ?_
    rintro x w13 ⟨rfl, ρ13, q13, e1, e2, rep13, chg13⟩
    refine ⟨_, rfl, hK _ _ ?_⟩
    simp only [Act.put, List.setIfInBounds_toArray, List.set_cons_succ, List.set_cons_zero]
    go_wp2
    go_end0
    exact ⟨rfl, ρ13, q13, e1, e2, rep13, chg12.trans chg13⟩
end Go.Proofs.Ybulkcsck.Ga
