/-
  OWN TEXT. LawS4690CGather: onVote at a vote that matches: refused, or there already.
-/
import Derived.Test.YbulkcsckGaP
import Derived.Test.YbulkcsckRt2
namespace Go.Proofs.Ybulkcsck.Ga
open Go.RowKit

theorem y_indexv {P : Program} {ops : Array Oper} {S : World → Prop} {o : Oper} {a : Act} {x y : Operand} {t e b o' n : Nat} {off : Nat} (k : Nat) (hw : Region.wanted o (yielded ops a.tmps) = true) (ho : o.op = .indexAddr t x y) (hx : a.eval x = .pointer (some ⟨b, o', none⟩)) (hy : a.eval y = .int .i64 k)
    (hu : P.underlying t = some (.array n e)) (hz : ∀ w, (sizeOf e).run P w = .ok 1 w) (hk : k < n) (hoff : o' + k = off) : YieldsIf P ops S o (.pointer (some ⟨b, off, none⟩)) a := hoff ▸
  Rt.y_of hw fun w _ => by
    have h1 : (0 : Int) ≤ (k : Int) ∧ (k : Int) < (n : Int) := by omega
    unfold execOp
    simp only [ho, hx, hy, Instr.indexAt, asIntOf, Sem.run_bind, Sem.run_pure, Result.andThen_ok, run_underlying hu, Instr.sureAddr, h1, and_self, if_true, hz, Int.toNat_natCast, Nat.mul_one, Addr.add_lit]

theorem own71 {w : World} {base : Nat} {v : Value} {xs : List Value} (h : w.ownsRow base 5 1 v 71 xs) : ∃ g c, v = .slice (some ⟨g, 0, none⟩) 71 c := by
  rcases h.2 with ⟨_, h⟩ | ⟨g, cap, cur, h, _⟩
  · cases h
  · exact ⟨g, cap, h⟩
theorem stL_length (s e v : Int) (bid : List Int) (h : bid.length = 32) : (stL s e v bid).length = 71 := by simp [stL, nameL, be8, h]

/-- what onVote leaves behind -/
def OvP (ρ : Nat → Nat) (cf : Cf) (ep : Int) (bid : List Int) (g : Gh) (w : World) (e : Ending) (w' : World) : Prop :=
  e = .returned (.tuple #[]) ∧ ∃ ρ', Rep ρ' cf ep bid g w' ∧ Chg ρ ρ' (fun r => 1 ≤ r ∧ r ≤ 17) w w'
theorem Rep.ss {ρ : Nat → Nat} {cf : Cf} {ep : Int} {bid : List Int} {g : Gh} {w : World} (h : Rep ρ cf ep bid g w) {s : Nat} (h1 : 1 ≤ s) (h3 : s ≤ 3) : Ss ρ s w (cf.vb s) (cf.hb s) (cf.gb s) cf.n (g.cnt s) (g.has s) (g.sig s) := by
  rcases (by omega : s = 1 ∨ s = 2 ∨ s = 3) with rfl | rfl | rfl
  · exact h.s1
  · exact h.s2
  · exact h.s3
theorem RC.vs {c : Cf} {a b d : Value} {C : Array Value} (h : RC c a b d C) {s : Nat} (h1 : 1 ≤ s) (h3 : s ≤ 3) : C[97 + s]? = some (.pointer (some ⟨c.vb s, 0, none⟩)) := by
  rcases (by omega : s = 1 ∨ s = 2 ∨ s = 3) with rfl | rfl | rfl
  · exact h.v1
  · exact h.v2
  · exact h.v3
theorem sgn_has (fr : Int) (id : Nat) (l : List Int) (g : Gh) : (sgn fr id l g).has = g.has := by unfold sgn; split <;> rfl
theorem sgn_cnt (fr : Int) (id : Nat) (l : List Int) (g : Gh) : (sgn fr id l g).cnt = g.cnt := by unfold sgn; split <;> rfl
theorem sgn_sig (fr : Int) (id : Nat) (l : List Int) (g : Gh) : (sgn fr id l g).sig = g.sig := by unfold sgn; split <;> rfl
theorem sgn_qs (fr : Int) (id : Nat) (l : List Int) (g : Gh) : (sgn fr id l g).qs = g.qs := by unfold sgn; split <;> rfl

set_option maxRecDepth 100000 in
set_option maxHeartbeats 3200000 in
theorem matchT1 (cf : Cf) (ρ : Nat → Nat) (ep : Int) (bid : List Int) (g : Gh) (mb bb fr s : Nat) (ps : Option Addr) (ns cs : Nat) (w : World) (hR : Rep ρ cf ep bid g w) (hpb : cf.pb = some ⟨bb, 0, none⟩) (hv : (!cf.lv && decide (cf.wi ≤ cf.vw)) = true) (hG : GateS mb bb s ep cf.vw ep cf.vw bid bid w) (hbl : bid.length = 32) (h1 : 1 ≤ s) (h3 : s ≤ 3)
    (hsig : w.cell? ⟨mb, 35, none⟩ = some (.slice ps ns cs)) (hmr : ρ mb = 35) (hle : g.frm.length ≤ 900) (hres : (decide ((fr : Int) = cf.id) || g.ans) = false) :
    Calls Yba.prog 14 #[.pointer (some ⟨cf.rb, 0, none⟩), .int .i64 (fr : Int), .pointer (some ⟨mb, 0, none⟩)] w (OvP ρ cf ep bid (sgn fr cf.id (stL s ep cf.vw bid) g) w) := by
  obtain ⟨C, inV, mV, snV, a1, a2, a3, a4, a5⟩ := hR.r
  have h96 : w.cell? ⟨cf.rb, 96, none⟩ = some (.pointer (some ⟨bb, 0, none⟩)) := by rw [← hpb]; exact a1.cell a2.pb
  have VOT : Hid (Calls Yba.prog 23 #[.pointer (some ⟨cf.rb, 0, none⟩)] w.drew fun e w' => e = .returned (.bool true) ∧ Below w.drew.heap.size w.drew w') := by
    have q := voting_any cf.rb cf.lv cf.wi cf.vw w.drew (a1.cell a2.lv) (a1.cell a2.wi) (a1.cell a2.vw)
    rw [hv] at q
    exact q
  have SG : Hid (∀ w', Below w.heap.size w w' → GateS mb bb s ep cf.vw ep cf.vw bid bid w') := fun w' h => hG.below h
  have SG0 : Hid (GateS mb bb s ep cf.vw ep cf.vw bid bid w.drew) := SG.out _ (Below.refl _ w).drew
  have HLB : Hid (bid.length = 32) := hbl
  have H2 : Hid ((ep != ep) = false) := by unfold Hid; simp
  have H3 : Hid ((cf.vw != cf.vw) = false) := by unfold Hid; simp
  have H4 : Hid ((!(bid == bid)) = false) := by unfold Hid; simp
  have H5 : Hid (decide ((s : Int) < 1) = false) := decide_eq_false (by omega)
  have H6 : Hid (decide ((s : Int) > 3) = false) := decide_eq_false (by omega)
  have HS4 : Hid (s < 4) := by unfold Hid; omega
  have mlt : mb < w.heap.size := World.block_lt_of_cell? w _ hsig
  have R2S : Hid (∀ w', Below w.heap.size w w' → w'.drew.cell? ⟨mb, 0, none⟩ = some (.int .i64 (s : Int)) ∧ w'.drew.cell? ⟨cf.rb, 97 + s, none⟩ = some (.pointer (some ⟨cf.vb s, 0, none⟩))) := fun w' h =>
    ⟨(h.cell (p := ⟨mb, 0, none⟩) mlt).trans hG.1.1, (h.cell (p := ⟨cf.rb, 97 + s, none⟩) a1.lt).trans (a1.cell (a2.vs h1 h3))⟩
  have S3 : Hid (∀ w', Below w.heap.size w w' → w'.cell? ⟨mb, 35, none⟩ = some (.slice ps ns cs)) := fun w' h => (h.cell (p := ⟨mb, 35, none⟩) mlt).trans hsig
  have S5 : Hid (∀ w' ρ', Chg ρ ρ' (fun r => 1 ≤ r ∧ r ≤ 17) w w' → w'.cell? ⟨mb, 35, none⟩ = some (.slice ps ns cs)) := fun w' ρ' h => (World.cell?_of_block (w := w) (a := ⟨mb, 35, none⟩) (h.block mb mlt (by rw [hmr]; omega))).trans hsig
  have SAYS : Hid (∀ w', Below w.heap.size w w' → Calls Yba.prog 25 #[.pointer (some ⟨mb, 0, none⟩)] w' (OwnP w'.heap.size w' 71 (u8s (stL s ep cf.vw bid)))) := fun w' h => vote_says mb s ep cf.vw bid hbl w' (SG.out w' h).1
  have SIGN : Hid (∀ gs c4 w', Below w.heap.size w w' → Rw (rx ρ w 18) 18 5 1 w' (.slice (some ⟨gs, 0, none⟩) 71 c4) 71 (u8s (stL s ep cf.vw bid)) → Calls Yba.prog 24 #[.pointer (some ⟨cf.rb, 0, none⟩), .int .i64 (fr : Int), .slice (some ⟨gs, 0, none⟩) 71 c4, .slice ps ns cs] w' (SgP (rx ρ w 18) cf ep bid (sgn fr cf.id (stL s ep cf.vw bid) g) false w')) := fun gs c4 w' h hrw => by
    have q := signed_any (rx ρ w 18) cf ep bid g gs c4 fr (stL s ep cf.vw bid) ps ns cs w' (hR.chg (Chg.of_below (R := fun _ => False) h 18) (fun _ _ _ q => q)) hrw (stL_length _ _ _ _ hbl) hle
    rw [hres] at q
    exact q
  clear a1 a2 a3 a4 a5 hR hG hsig hmr hle hv hpb hbl mlt hres h1 h3 
  generalize hrb : cf.rb = rb at *
  generalize hvw : cf.vw = vw at *
  generalize hvb : cf.vb s = vb at *
  go_enter Yba.func14, Yba.ntmps14
  go_upto_region 1 with fail
  clear h96
  refine Rt.regionL (GateS mb bb s ep vw ep vw bid bid) [some (.pointer (some ⟨bb, 0, none⟩)), some (.bool false), some (.bool false), some (.pointer (some ⟨rb, 0, none⟩))] 50
    (by kernel_rfl) (by kernel_rfl) (by kernel_rfl) (by kernel_rfl) (by kernel_rfl) SG0.out ?_ ?_
  · skip
    refine Rt.yc (Rt.y_move (by kernel_rfl) rfl (by kernel_rfl)) ?_
    refine Rt.yc (Rt.y_bin (by kernel_rfl) rfl (fun w => ptrNilS bb w)) ?_
    refine Rt.yc (Rt.y_move (by kernel_rfl) rfl (by kernel_rfl)) ?_
    refine Rt.yc (Rt.y_move (by kernel_rfl) rfl (by kernel_rfl)) ?_
    exact Rt.ye
  refine Rt.oneL 4 (by kernel_rfl) rfl (by kernel_rfl) ?_
  with_reducible refine Rt.wp_call (vs := #[.pointer (some ⟨rb, 0, none⟩)]) rfl ?_ (Yba.call23 _) ?_
  · kernel_rfl
  refine VOT.out.mono ?_
  rintro x w1 ⟨rfl, hb1⟩
  have hb1' : Below w.heap.size w w1 := (Below.refl _ w).drew.trans hb1
  refine ⟨_, rfl, (SG.out w1 hb1'), ?_⟩
  refine Rt.moreL [none, none, none, none, none, some (.bool false), some (.bool false), some (.bool false), some (.pointer (some ⟨mb, 0, none⟩)), some (.pointer (some ⟨mb, 0, none⟩)), some (.pointer (some ⟨mb, 1, none⟩)), some (.int .i64 ep), some (.pointer (some ⟨bb, 0, none⟩)), some (.pointer (some ⟨bb, 0, none⟩)), some (.pointer (some ⟨bb, 0, none⟩)), some (.int .i64 ep), some (.bool false), some (.bool false), some (.bool false), some (.pointer (some ⟨mb, 0, none⟩)), some (.pointer (some ⟨mb, 0, none⟩)), some (.pointer (some ⟨mb, 2, none⟩)), some (.int .i64 vw), some (.pointer (some ⟨bb, 0, none⟩)), some (.pointer (some ⟨bb, 0, none⟩)), some (.pointer (some ⟨bb, 1, none⟩)), some (.int .i64 vw), some (.bool false), some (.bool false), some (.bool false), some (.pointer (some ⟨mb, 0, none⟩)), some (.pointer (some ⟨mb, 0, none⟩)), some (.pointer (some ⟨mb, 3, none⟩)), some (.agg (u8s bid).toArray), some (.pointer (some ⟨bb, 0, none⟩)), some (.pointer (some ⟨bb, 0, none⟩)), some (.pointer (some ⟨bb, 36, none⟩)), some (.agg (u8s bid).toArray), some (.bool false), some (.bool false), some (.bool false), some (.pointer (some ⟨mb, 0, none⟩)), some (.pointer (some ⟨mb, 0, none⟩)), some (.pointer (some ⟨mb, 0, none⟩)), some (.int .i64 s), some (.bool false), some (.bool false), some (.bool false), some (.pointer (some ⟨mb, 0, none⟩)), some (.pointer (some ⟨mb, 0, none⟩)), some (.pointer (some ⟨mb, 0, none⟩)), some (.int .i64 s), some (.bool false), some (.bool false)] 0 (by kernel_rfl) (by kernel_rfl) (by kernel_rfl) (by kernel_rfl) (SG.out w1 hb1') ?_ ?_
  · refine Rt.yn (Rt.yn (Rt.yn (Rt.yn (Rt.yn ?_))))
    refine Rt.yc (Rt.y_not (t := true) (by kernel_rfl) rfl (by kernel_rfl)) ?_
    refine Rt.yc (Rt.y_pick false (by kernel_rfl) rfl (by kernel_rfl) (by kernel_rfl)) ?_
    refine Rt.yc (Rt.y_move (by kernel_rfl) rfl (by kernel_rfl)) ?_
    refine Rt.yc (Rt.y_move (by kernel_rfl) rfl (by kernel_rfl)) ?_
    refine Rt.yc (Rt.y_nil (by kernel_rfl) rfl (by kernel_rfl)) ?_
    refine Rt.yc (Rt.y_field 0 0 (by kernel_rfl) rfl (by kernel_rfl) Yba.underlying112 rfl (by kernel_rfl) rfl) ?_
    refine Rt.yc (Rt.y_load mb 1 (by kernel_rfl) rfl (by kernel_rfl) Yba.isAgg3 (fun w h => h.1.2.1)) ?_
    refine Rt.yc (Rt.y_move (by kernel_rfl) rfl (by kernel_rfl)) ?_
    refine Rt.yc (Rt.y_nil (by kernel_rfl) rfl (by kernel_rfl)) ?_
    refine Rt.yc (Rt.y_field 0 0 (by kernel_rfl) rfl (by kernel_rfl) Yba.underlying44 rfl (by kernel_rfl) rfl) ?_
    refine Rt.yc (Rt.y_load bb 0 (by kernel_rfl) rfl (by kernel_rfl) Yba.isAgg3 (fun w h => h.2.1)) ?_
    refine Rt.yc (Rt.y_bin (by kernel_rfl) rfl (fun w => neqI ep ep _ H2.out w)) ?_
    refine Rt.yc (Rt.y_pick false (by kernel_rfl) rfl (by kernel_rfl) (by kernel_rfl)) ?_
    refine Rt.yc (Rt.y_move (by kernel_rfl) rfl (by kernel_rfl)) ?_
    refine Rt.yc (Rt.y_move (by kernel_rfl) rfl (by kernel_rfl)) ?_
    refine Rt.yc (Rt.y_nil (by kernel_rfl) rfl (by kernel_rfl)) ?_
    refine Rt.yc (Rt.y_field 0 0 (by kernel_rfl) rfl (by kernel_rfl) Yba.underlying112 rfl (by kernel_rfl) rfl) ?_
    refine Rt.yc (Rt.y_load mb 2 (by kernel_rfl) rfl (by kernel_rfl) Yba.isAgg3 (fun w h => h.1.2.2.1)) ?_
    refine Rt.yc (Rt.y_move (by kernel_rfl) rfl (by kernel_rfl)) ?_
    refine Rt.yc (Rt.y_nil (by kernel_rfl) rfl (by kernel_rfl)) ?_
    refine Rt.yc (Rt.y_field 0 0 (by kernel_rfl) rfl (by kernel_rfl) Yba.underlying44 rfl (by kernel_rfl) rfl) ?_
    refine Rt.yc (Rt.y_load bb 1 (by kernel_rfl) rfl (by kernel_rfl) Yba.isAgg3 (fun w h => h.2.2.1)) ?_
    refine Rt.yc (Rt.y_bin (by kernel_rfl) rfl (fun w => neqI vw vw _ H3.out w)) ?_
    refine Rt.yc (Rt.y_pick false (by kernel_rfl) rfl (by kernel_rfl) (by kernel_rfl)) ?_
    refine Rt.yc (Rt.y_move (by kernel_rfl) rfl (by kernel_rfl)) ?_
    refine Rt.yc (Rt.y_move (by kernel_rfl) rfl (by kernel_rfl)) ?_
    refine Rt.yc (Rt.y_nil (by kernel_rfl) rfl (by kernel_rfl)) ?_
    refine Rt.yc (Rt.y_field 31 0 (by kernel_rfl) rfl (by kernel_rfl) Yba.underlying112 rfl (by kernel_rfl) rfl) ?_
    refine Rt.yc (Rt.y_loadm mb 3 (by kernel_rfl) rfl (by kernel_rfl) (fun w h => h.1.2.2.2) Yba.underlying30 rfl (inf30 HLB.out)) ?_
    refine Rt.yc (Rt.y_move (by kernel_rfl) rfl (by kernel_rfl)) ?_
    refine Rt.yc (Rt.y_nil (by kernel_rfl) rfl (by kernel_rfl)) ?_
    refine Rt.yc (Rt.y_field 31 0 (by kernel_rfl) rfl (by kernel_rfl) Yba.underlying44 rfl (by kernel_rfl) rfl) ?_
    refine Rt.yc (Rt.y_loadm bb 36 (by kernel_rfl) rfl (by kernel_rfl) (fun w h => h.2.2.2) Yba.underlying30 rfl (inf30 HLB.out)) ?_
    refine Rt.yc (Rt.y_bin (by kernel_rfl) rfl (fun w => neqB bid bid HLB.out HLB.out _ H4.out w)) ?_
    refine Rt.yc (Rt.y_pick false (by kernel_rfl) rfl (by kernel_rfl) (by kernel_rfl)) ?_
    refine Rt.yc (Rt.y_move (by kernel_rfl) rfl (by kernel_rfl)) ?_
    refine Rt.yc (Rt.y_move (by kernel_rfl) rfl (by kernel_rfl)) ?_
    refine Rt.yc (Rt.y_nil (by kernel_rfl) rfl (by kernel_rfl)) ?_
    refine Rt.yc (Rt.y_field 0 0 (by kernel_rfl) rfl (by kernel_rfl) Yba.underlying112 rfl (by kernel_rfl) rfl) ?_
    refine Rt.yc (Rt.y_load mb 0 (by kernel_rfl) rfl (by kernel_rfl) Yba.isAgg3 (fun w h => h.1.1)) ?_
    refine Rt.yc (Rt.y_bin (by kernel_rfl) rfl (fun w => lssI s 1 _ H5.out w)) ?_
    refine Rt.yc (Rt.y_pick false (by kernel_rfl) rfl (by kernel_rfl) (by kernel_rfl)) ?_
    refine Rt.yc (Rt.y_move (by kernel_rfl) rfl (by kernel_rfl)) ?_
    refine Rt.yc (Rt.y_move (by kernel_rfl) rfl (by kernel_rfl)) ?_
    refine Rt.yc (Rt.y_nil (by kernel_rfl) rfl (by kernel_rfl)) ?_
    refine Rt.yc (Rt.y_field 0 0 (by kernel_rfl) rfl (by kernel_rfl) Yba.underlying112 rfl (by kernel_rfl) rfl) ?_
    refine Rt.yc (Rt.y_load mb 0 (by kernel_rfl) rfl (by kernel_rfl) Yba.isAgg3 (fun w h => h.1.1)) ?_
    refine Rt.yc (Rt.y_bin (by kernel_rfl) rfl (fun w => gtrI s 3 _ H6.out w)) ?_
    refine Rt.yc (Rt.y_pick false (by kernel_rfl) rfl (by kernel_rfl) (by kernel_rfl)) ?_
    exact Rt.ye
  with_reducible refine Rt.done ?_ ?_ 0
  · kernel_rfl
  simp only [Rt.putL, Act.put, List.setIfInBounds_toArray, List.set_cons_succ, List.set_cons_zero]
  go_upto_region 2 with fail
  refine Rt.regionL (fun w' => w'.cell? ⟨mb, 0, none⟩ = some (.int .i64 (s : Int)) ∧ w'.cell? ⟨rb, 97 + s, none⟩ = some (.pointer (some ⟨vb, 0, none⟩))) [some (.pointer (some ⟨rb, 0, none⟩)), some (.pointer (some ⟨mb, 0, none⟩)), some (.pointer (some ⟨mb, 0, none⟩)), some (.pointer (some ⟨mb, 0, none⟩)), some (.int .i64 (s : Int)), some (.pointer (some ⟨rb, 0, none⟩)), some (.pointer (some ⟨rb, 97, none⟩)), some (.pointer (some ⟨rb, 97 + s, none⟩)), some (.pointer (some ⟨vb, 0, none⟩)), some (.pointer (some ⟨vb, 0, none⟩))] 0
    (by kernel_rfl) (by kernel_rfl) (by kernel_rfl) (by kernel_rfl) (by kernel_rfl) (R2S.out w1 hb1') ?_ ?_
  · skip
    refine Rt.yc (Rt.y_move (by kernel_rfl) rfl (by kernel_rfl)) ?_
    refine Rt.yc (Rt.y_move (by kernel_rfl) rfl (by kernel_rfl)) ?_
    refine Rt.yc (Rt.y_nil (by kernel_rfl) rfl (by kernel_rfl)) ?_
    refine Rt.yc (Rt.y_field 0 0 (by kernel_rfl) rfl (by kernel_rfl) Yba.underlying112 rfl (by kernel_rfl) rfl) ?_
    refine Rt.yc (Rt.y_load mb 0 (by kernel_rfl) rfl (by kernel_rfl) Yba.isAgg3 (fun w h => h.1)) ?_
    refine Rt.yc (Rt.y_nil (by kernel_rfl) rfl (by kernel_rfl)) ?_
    refine Rt.yc (Rt.y_field 3 0 (by kernel_rfl) rfl (by kernel_rfl) Yba.underlying72 rfl (by kernel_rfl) rfl) ?_
    refine Rt.yc (y_indexv s (by kernel_rfl) rfl (by kernel_rfl) (by kernel_rfl) Yba.underlying56 (fun w => by kernel_rfl) HS4.out rfl) ?_
    refine Rt.yc (Rt.y_load rb (97 + s) (by kernel_rfl) rfl (by kernel_rfl) Yba.isAgg55 (fun w h => h.2)) ?_
    refine Rt.yc (Rt.y_assign (by kernel_rfl) rfl (by kernel_rfl)) ?_
    exact Rt.ye
  with_reducible refine Rt.done ?_ ?_ 0
  · kernel_rfl
  simp only [Rt.putL, Act.put, List.setIfInBounds_toArray, List.set_cons_succ, List.set_cons_zero]
  have hb3 : Below w.heap.size w w1.drew.drew := hb1'.drew.drew
  go_upto_region 3 with fail
  refine Rt.regionL (fun w' => w'.cell? ⟨mb, 35, none⟩ = some (.slice ps ns cs)) [some (.pointer (some ⟨rb, 0, none⟩)), some (.int .i64 (fr : Int)), some (.pointer (some ⟨mb, 0, none⟩)), none, some (.pointer (some ⟨mb, 0, none⟩)), some (.pointer (some ⟨mb, 0, none⟩)), some (.pointer (some ⟨mb, 35, none⟩)), some (.slice ps ns cs)] 13
    (by kernel_rfl) (by kernel_rfl) (by kernel_rfl) (by kernel_rfl) (by kernel_rfl) (S3.out _ hb3) ?_ ?_
  · skip
    refine Rt.yc (Rt.y_move (by kernel_rfl) rfl (by kernel_rfl)) ?_
    refine Rt.yc (Rt.y_move (by kernel_rfl) rfl (by kernel_rfl)) ?_
    refine Rt.yc (Rt.y_move (by kernel_rfl) rfl (by kernel_rfl)) ?_
    refine Rt.yn ?_
    refine Rt.yc (Rt.y_move (by kernel_rfl) rfl (by kernel_rfl)) ?_
    refine Rt.yc (Rt.y_nil (by kernel_rfl) rfl (by kernel_rfl)) ?_
    refine Rt.yc (Rt.y_field 0 0 (by kernel_rfl) rfl (by kernel_rfl) Yba.underlying112 rfl (by kernel_rfl) rfl) ?_
    refine Rt.yc (Rt.y_load mb 35 (by kernel_rfl) rfl (by kernel_rfl) Yba.isAgg37 (fun w h => h)) ?_
    exact Rt.ye
  refine Rt.oneL 3 (by kernel_rfl) rfl (by kernel_rfl) ?_
  with_reducible refine Rt.wp_call (vs := #[(.pointer (some ⟨mb, 0, none⟩))]) rfl ?_ (Yba.call25 _) ?_
  · kernel_rfl
  refine (SAYS.out _ hb3).mono ?_
  rintro x w4 ⟨v4, rfl, ho4, hb4⟩
  obtain ⟨gs, c4, rfl⟩ := own71 ho4
  have hb4' : Below w.heap.size w w4 := hb3.trans (hb4.mono hb3.size)
  refine ⟨_, rfl, S3.out _ hb4', ?_⟩
  refine Rt.oneL 8 (by kernel_rfl) rfl (by kernel_rfl) ?_
  with_reducible refine Rt.wp_call (vs := #[(.pointer (some ⟨rb, 0, none⟩)), .int .i64 (fr : Int), .slice (some ⟨gs, 0, none⟩) 71 c4, (.slice ps ns cs)]) rfl ?_ (Yba.call24 _) ?_
  · kernel_rfl
  refine (SIGN.out gs c4 w4 hb4' (rw_own ho4 hb3.size)).mono ?_
  rintro x w5 ⟨ρ5, rfl, rep5, chg5⟩
  have chg5w : Chg ρ ρ5 (fun r => 1 ≤ r ∧ r ≤ 17) w w5 := ((Chg.of_below (R := fun r => 1 ≤ r ∧ r ≤ 17) hb4' 18)).trans (chg5.mono (fun r h => by omega))
  have s5 := S5.out w5 ρ5 chg5w
  refine ⟨_, rfl, s5, ?_⟩
  refine Rt.moreL [none, none, none, none, none, none, none, none, none, some (.bool true), some (.bool true), some undef, some undef, some undef, some undef, some undef, some undef, some undef, some undef, some (.bool true)] 0 (by kernel_rfl) (by kernel_rfl) (by kernel_rfl) (by kernel_rfl) s5 ?_ ?_
  · refine Rt.yn (Rt.yn (Rt.yn (Rt.yn (Rt.yn (Rt.yn (Rt.yn (Rt.yn (Rt.yn ?_))))))))
    refine Rt.yc (Rt.y_not (t := false) (by kernel_rfl) rfl (by kernel_rfl)) ?_
    refine Rt.yc (Rt.y_move (by kernel_rfl) rfl (by kernel_rfl)) ?_
    refine Rt.yc (Rt.y_off (by kernel_rfl)) ?_
    refine Rt.yc (Rt.y_off (by kernel_rfl)) ?_
    refine Rt.yc (Rt.y_off (by kernel_rfl)) ?_
    refine Rt.yc (Rt.y_off (by kernel_rfl)) ?_
    refine Rt.yc (Rt.y_off (by kernel_rfl)) ?_
    refine Rt.yc (Rt.y_off (by kernel_rfl)) ?_
    refine Rt.yc (Rt.y_off (by kernel_rfl)) ?_
    refine Rt.yc (Rt.y_off (by kernel_rfl)) ?_
    refine Rt.yc (Rt.y_pick true (by kernel_rfl) rfl (by kernel_rfl) (by kernel_rfl)) ?_
    exact Rt.ye
  with_reducible refine Rt.done ?_ ?_ 0
  · kernel_rfl
  simp only [Rt.putL, Act.put, List.setIfInBounds_toArray, List.set_cons_succ, List.set_cons_zero]
  go_wp2
  (try simp only [Exit.inBlock, Exit.then])
  refine bodyPost_ret (results_none rfl _ _ _) rfl ?_
  exact ⟨rfl, ρ5, rep5, chg5w⟩
end Go.Proofs.Ybulkcsck.Ga
