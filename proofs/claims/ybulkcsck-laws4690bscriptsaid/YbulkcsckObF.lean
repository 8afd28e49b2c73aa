/-
  OWN TEXT. The outbox: enqueue.
-/
import Derived.Test.YbulkcsckObE
import Derived.BigQuiet
import Derived.BigRegion
import Derived.Deep.LoopGhost
import Derived.Laws.Cover3
namespace Go.Proofs.Ybulkcsck.Ob
open Go.RowKit Go.MuLone Go.Conc Go.Proofs.Ybulkcsck.Qu

/-- What the drop-oldest queue keeps. -/
def shed (mf mb : Int) : List Nat → List Nat
  | [] => []
  | [x] => [x]
  | x :: y :: r => if mf < ((r.length : Nat) : Int) + 2 ∨ mb < (((x :: y :: r).sum : Nat) : Int) then shed mf mb (y :: r) else x :: y :: r

/-- append, its run being known. -/
theorem wpList_append_any {P : Program} {w w' : World} {ops : Array Oper} {rest : List Oper} {o : Oper} {a : Act} {Q : Exit → Act → World → Prop} (hgd : o.guard = none) (s x : Operand) (t ty : TypeId)
    (ho : o.op = .call { callee := .builtin .append, args := #[s, x], argTypes := #[t, t] }) (hty : o.type = ty) {v y v' : Value} (hs : a.eval s = v) (hx : a.eval x = y) (hr : (Builtin.append_ #[t, t] ty #[v, y]).run P w = .ok v' w')
    (h : wpList P ops Q rest (a.put o.dst v') w') : wpList P ops Q (o :: rest) a w := by
  subst hty
  refine wpList_plain hgd fun K hK => ?_
  unfold Oper.wp execOp
  simp only [ho, resolve, invoke, builtin, Sem.run_bind, Sem.run_pure, Result.andThen_ok, List.map_toArray, List.map_cons, List.map_nil, hs, hx, hr]
  exact hK _ _ h

theorem info37' : ∃ i, Yba.prog.info? 37 = some i ∧ i.zero = some (.slice none 0 0) ∧ i.size = 1 ∧ i.bytes = 24 := by
  have h : (Yba.prog.info? 37).map (fun i => (i.size, i.bytes)) = some (1, 24) := by kernel_rfl
  have h2 : (Yba.prog.info? 37).bind (·.zero) = some (.slice none 0 0) := by kernel_rfl
  obtain ⟨i, hi, hb⟩ := Option.map_eq_some_iff.1 h
  rw [hi] at h2
  simp only [Prod.mk.injEq] at hb
  exact ⟨i, hi, h2, hb.1, hb.2⟩

/-- One round of the loop, as the relation has it. -/
theorem rel_pop {w wr : World} {b c B g o cap L T x y qp : Nat} {mf mb : Int} {r : List Nat} {pp : Addr} {f2 : Value} {fs : List Value} {target : List Nat} (h1 : shed mf mb (x :: y :: r) = target) (h2 : shed mf mb (x :: y :: r) = shed mf mb (y :: r))
    (h3 : fl f2 = some y ∧ fs.map fl = r.map some) (h4 : L = r.length) (h5 : T = (x :: y :: r).sum) (h6 : fs.length = r.length) (h7 : (x :: y :: r).sum ≤ 1000000)
    (st : St w wr b c B mf mb 1 (.slice (some ⟨g, o, none⟩) (L + 2) cap) (T : Int)) (qq : Qs wr 37 B (.slice (some ⟨g, o, none⟩) (L + 2) cap) (.slice (some pp) x qp :: f2 :: fs)) (k : Nat) :
    ∃ ms' fr frs', L + 1 = ms'.length ∧ shed mf mb ms' = target ∧ ms' ≠ [] ∧ ms'.sum ≤ 1000000 ∧
      St w ((((wr.drewN k).setCell ⟨b, 5, none⟩ (.int .i64 (wrap64 ((T : Int) - (x : Int))))).setCell ⟨g, o, none⟩ (.slice none 0 0)).setCell ⟨b, 4, none⟩ (.slice (some ⟨g, o + 1, none⟩) (L + 1) (cap - 1))) b c B mf mb 1 fr ((ms'.sum : Nat) : Int) ∧
      Qs ((((wr.drewN k).setCell ⟨b, 5, none⟩ (.int .i64 (wrap64 ((T : Int) - (x : Int))))).setCell ⟨g, o, none⟩ (.slice none 0 0)).setCell ⟨b, 4, none⟩ (.slice (some ⟨g, o + 1, none⟩) (L + 1) (cap - 1))) 37 B fr frs' ∧ frs'.map fl = ms'.map some := by
  have s5 := (st.drew k).set5 (wrap64 ((T : Int) - (x : Int)))
  have q5 := (st.drew k).q qq 5 (.int .i64 (wrap64 ((T : Int) - (x : Int))))
  obtain ⟨s6, q6, _⟩ := s5.pop q5 (.slice none 0 0)
  rw [List.length_cons, h6, ← h4] at q6
  have s7 := s6.set4 (.slice (some ⟨g, o + 1, none⟩) (L + 1) (cap - 1))
  have q7 := s6.q q6 4 (.slice (some ⟨g, o + 1, none⟩) (L + 1) (cap - 1))
  have hs : wrap64 ((T : Int) - (x : Int)) = (((y :: r).sum : Nat) : Int) := by
    rw [h5, List.sum_cons]
    rw [List.sum_cons] at h7
    rw [wrap_small (by omega) (by omega)]
    omega
  refine ⟨y :: r, _, f2 :: fs, by simp [h4], by rw [← h2, h1], by simp, by rw [List.sum_cons] at h7; omega, ?_, q7, ?_⟩
  · rw [← hs]; exact s7
  · simp only [List.map_cons, h3.1, h3.2]

set_option maxRecDepth 100000 in
set_option maxHeartbeats 1600000 in
theorem enq (b c B : Nat) (mf mb : Int) (ms : List Nat) (w : World) (p : Addr) (n q : Nat) (h : Out w b c B mf mb ms) (lb : B ≤ b) (lc : B ≤ c) (lB : B ≤ w.heap.size) (hs : (ms ++ [n]).sum ≤ 1000000) (hlen : ms.length ≤ 2000) :
    Calls Yba.prog 12 #[.pointer (some ⟨b, 0, none⟩), .slice (some p) n q] w fun e w' => e = .returned (.tuple #[]) ∧ Out w' b c B mf mb (shed mf mb (ms ++ [n])) ∧ Keep B 3 w w' := by
  obtain ⟨fr, frs, hb, hc, hq, hm⟩ := h
  obtain ⟨i, hi, hz, hsz, hby⟩ := info37'
  have hfl : frs.length = ms.length := by simpa using congrArg List.length hm
  have st0 : St w w b c B mf mb 0 fr ((ms.sum : Nat) : Int) := ⟨hb, hc, Keep.refl _ _ _, lb, lc⟩
  have st1 := st0.set2 1
  have q1 := st0.q hq 2 (.int .i32 1)
  obtain ⟨w1, e1⟩ : ∃ w1, w1 = w.setCell ⟨b, 2, none⟩ (.int .i32 1) := ⟨_, rfl⟩
  have s1 : w1.heap.size = w.heap.size := by rw [e1]; simp [World.setCell]
  rw [← e1] at st1 q1
  -- the frame, laid into a block of its own
  have st2 := st1.alloc (.cells #[.slice (some p) n q] 37)
  have q2 := q1.alloc (.cells #[.slice (some p) n q] 37)
  obtain ⟨w2, e2⟩ : ∃ w2, w2 = w1.alloc (.cells #[.slice (some p) n q] 37) := ⟨_, rfl⟩
  have hu : w2.cell? ⟨w1.heap.size, 0, none⟩ = some (.slice (some p) n q) := by
    rw [e2, World.cell?, heap_alloc_new]
    rfl
  rw [← e2] at st2 q2
  obtain ⟨fr', w3, hap, q3, gr⟩ := q2.append (P := Yba.prog) 76 76 i (.slice none 0 0) 24 Yba.underlying76 hi hz hsz hby rfl ⟨w1.heap.size, 0, none⟩ 1 (.slice (some p) n q) hu rfl (by unfold maxLen; omega) (by omega) (by rw [e2]; simp; omega)
  obtain ⟨p3, k3, rfl, _⟩ := q3.form
  obtain ⟨p0, k0, rfl, _⟩ := hq.form
  have st3 := st2.grow gr
  obtain ⟨N, eN⟩ : ∃ N, N = (frs ++ [Value.slice (some p) n q]).length := ⟨_, rfl⟩
  rw [← eN] at hap q3
  obtain ⟨M, eM⟩ : ∃ M, M = frs.length := ⟨_, rfl⟩
  rw [← eM] at hap st3 st2 st1 hb st0
  rw [e2] at hap
  have h1 := hb.c2
  have f1 := hb.fz 2
  have h2 := st1.box.c4
  have h2' := st2.box.c4
  have h3 := st3.box.c4
  have f3 := st3.box.fz 4
  have h5 := (st3.set4 (.slice p3 N k3)).box.c5
  have f5 := (st3.set4 (.slice p3 N k3)).box.fz 5
  have hw5 : wrap64 (((ms.sum : Nat) : Int) + (n : Int)) = (((ms ++ [n]).sum : Nat) : Int) := by
    simp only [List.sum_append, List.sum_cons, List.sum_nil, Nat.add_zero] at hs ⊢
    rw [wrap_small (by omega) (by omega)]
    omega
  have HAP : Hid ((Builtin.append_ #[76, 76] 76 #[.slice p0 M k0, .slice (some ⟨w1.heap.size, 0, none⟩) 1 1]).run Yba.prog (w1.alloc (.cells #[.slice (some p) n q] 37)) = .ok (.slice p3 N k3) w3) := hap
  clear hap
  have S3 : Hid (St w w3 b c B mf mb 1 (.slice p0 M k0) ((ms.sum : Nat) : Int)) := st3
  have Q3 : Hid (Qs w3 37 B (.slice p3 N k3) (frs ++ [.slice (some p) n q])) := q3
  have HM : Hid (frs.map fl = ms.map some) := hm
  have E1 : Hid (w1 = w.setCell ⟨b, 2, none⟩ (.int .i32 1)) := e1
  have E2 : Hid (w2 = w1.alloc (.cells #[.slice (some p) n q] 37)) := e2
  have W5 : Hid (wrap64 (((ms.sum : Nat) : Int) + (n : Int)) = (((ms ++ [n]).sum : Nat) : Int)) := hw5
  have HS : Hid ((ms ++ [n]).sum ≤ 1000000) := hs
  clear st0 st1 st2 st3 q1 q2 q3 gr hq hc hb hm e1 e2 hw5 hs s1 hfl eM eN
  go_enter Yba.func12, Yba.ntmps12
  go_wp2_with (first
    | (go_at_call 20; refine (lock_free lib ⟨b, 2, none⟩ _ h1 f1).mono ?_; rintro e w' ⟨rfl, rfl⟩; rw [← E1.out])
    | (at_builtin; (with_reducible refine wpList_append_any ?_ (.tmp 12) (.tmp 14) 76 76 ?_ ?_ (v := .slice p0 M k0) (y := .slice (some ⟨w1.heap.size, 0, none⟩) 1 1) ?_ ?_ HAP.out ?_); (first | exact rfl | skip); (first | exact rfl | skip); (first | exact rfl | skip); (first | exact rfl | skip); (first | exact rfl | skip)))
  have s5 := (S3.out.set4 (.slice p3 N k3)).set5 (wrap64 (((ms.sum : Nat) : Int) + (n : Int)))
  have q5 := (S3.out.set4 (.slice p3 N k3)).q (S3.out.q Q3.out 4 (.slice p3 N k3)) 5 (.int .i64 (wrap64 (((ms.sum : Nat) : Int) + (n : Int))))
  obtain ⟨w5, e5⟩ : ∃ w5, w5 = (w3.setCell { block := b, off := 4 } (Value.slice p3 N k3)).setCell { block := b, off := 5 } (Value.int IntKind.i64 (wrap64 (↑ms.sum + ↑n))) := ⟨_, rfl⟩
  rw [← e5] at s5 q5 ⊢
  rw [W5.out] at s5
  have S5 : Hid (St w w5 b c B mf mb 1 (.slice p3 N k3) (((ms ++ [n]).sum : Nat) : Int)) := s5
  have Q5 : Hid (Qs w5 37 B (.slice p3 N k3) (frs ++ [.slice (some p) n q])) := q5
  clear s5 q5 e5 S3 Q3 h1 f1 h2 h2' h3 f3 h5 f5 hu
  go_loopg [] (ms ++ [n]).length (fun k wr => ∃ ms' fr frs', k = ms'.length ∧ shed mf mb ms' = shed mf mb (ms ++ [n]) ∧ ms' ≠ [] ∧ ms'.sum ≤ 1000000 ∧ St w wr b c B mf mb 1 fr ((ms'.sum : Nat) : Int) ∧ Qs wr 37 B fr frs' ∧ frs'.map fl = ms'.map some)
  case atStart => exact ⟨ms ++ [n], _, _, rfl, rfl, by simp, HS.out, S5.out, Q5.out, by rw [List.map_append, List.map_append, HM.out]; rfl⟩
  case round =>
    obtain ⟨ms', fr, frs', hk, hsh, hne, hsum, st, qq, hmm⟩ := hrel
    clear S5 Q5
    rcases ms' with _ | ⟨x, _ | ⟨y, r⟩⟩
    · exact absurd rfl hne
    · obtain ⟨f, rfl⟩ : ∃ f, frs' = [f] := by
        have : frs'.length = 1 := by simpa using congrArg List.length hmm
        match frs', this with
        | [f], _ => exact ⟨f, rfl⟩
      obtain ⟨g, o, cap, rfl, _⟩ := qq.head
      simp only [List.length_nil, Nat.zero_add] at st qq
      have c0 := st.box.c0
      have c1 := st.box.c1
      have c4 := st.box.c4
      have c5 := st.box.c5
      have SS : Hid (St w wr b c B mf mb 1 (.slice (some ⟨g, o, none⟩) 1 cap) (([x].sum : Nat) : Int)) := st
      have QQ : Hid (Qs wr 37 B (.slice (some ⟨g, o, none⟩) 1 cap) [f]) := qq
      have HK : Hid (gk = [x].length ∧ shed mf mb [x] = shed mf mb (ms ++ [n]) ∧ [f].map fl = [x].map some) := ⟨hk, hsh, hmm⟩
      clear st qq hk hsh hmm hne
      go_wp2_with fail
      go_quiet (fail)
      go_wp2_with (first
        | (go_at_call 21; refine (unlock_held lib ⟨b, 2, none⟩ _ (SS.out.drew nq).box.c2 ((SS.out.drew nq).box.fz 2)).mono ?_; rintro e w' ⟨rfl, rfl⟩)
        | (go_at_call 22; refine (signal_any b mf mb _ _ _ c _ ((SS.out.drew nq).set2 0).box ((SS.out.drew nq).set2 0).chan).mono ?_; rintro e w7 ⟨rfl, hc7, ho7⟩))
      go_end0
      have a7 := ((SS.out.drew nq).set2 0).sig hc7 ho7
      have q7 := ((SS.out.drew nq).set2 0).qsig ho7 ((SS.out.drew nq).q QQ.out 2 (.int .i32 0))
      refine ⟨rfl, ⟨_, _, ?_, a7.chan, q7, ?_⟩, a7.keep⟩
      · rw [← HK.out.2.1]; exact a7.box
      · rw [← HK.out.2.1]; exact HK.out.2.2
    · obtain ⟨f, f2, fs, rfl⟩ : ∃ f f2 fs, frs' = f :: f2 :: fs := by
        have : frs'.length = r.length + 2 := by simpa using congrArg List.length hmm
        match frs', this with
        | f :: f2 :: fs, _ => exact ⟨f, f2, fs, rfl⟩
      have hfl : fs.length = r.length := by simpa using congrArg List.length hmm
      simp only [List.map_cons, List.cons.injEq] at hmm
      obtain ⟨pp, qp, rfl⟩ := fl_some hmm.1
      obtain ⟨g, o, cap, rfl, hcap, -, cg, fg, ⟨cur, hcur⟩, -⟩ := qq.head
      have hgb : g ≠ b := by
        rintro rfl
        exact st.notq (e := 37) (by decide) cur hcur
      have hbg := Ne.symm hgb
      simp only [List.length_cons, hfl] at st qq hcap
      obtain ⟨L, eL⟩ : ∃ L, L = r.length := ⟨_, rfl⟩
      obtain ⟨T, eT⟩ : ∃ T : Nat, T = (x :: y :: r).sum := ⟨_, rfl⟩
      rw [← eL, Nat.add_assoc] at st qq hcap
      rw [← eT] at st
      have hshe : shed mf mb (x :: y :: r) = if mf < (L : Int) + 2 ∨ mb < (T : Int) then shed mf mb (y :: r) else x :: y :: r := by rw [eL, eT]; rfl
      have c0 := st.box.c0
      have c1 := st.box.c1
      have c4 := st.box.c4
      have c5 := st.box.c5
      have f5 := st.box.fz 5
      have f4 := st.box.fz 4
      have hc1 : ¬ cap = 1 := by omega
      have SS : Hid (St w wr b c B mf mb 1 (.slice (some ⟨g, o, none⟩) (L + 2) cap) (T : Int)) := st
      have QQ : Hid (Qs wr 37 B (.slice (some ⟨g, o, none⟩) (L + 2) cap) (.slice (some pp) x qp :: f2 :: fs)) := qq
      have HK : Hid (gk = (x :: y :: r).length ∧ shed mf mb (x :: y :: r) = shed mf mb (ms ++ [n]) ∧ (fl f2 = some y ∧ fs.map fl = r.map some) ∧ L = r.length ∧ T = (x :: y :: r).sum ∧ fs.length = r.length ∧ (x :: y :: r).sum ≤ 1000000) := ⟨hk, hsh, hmm.2, eL, eT, hfl, hsum⟩
      have HX : Hid (shed mf mb (x :: y :: r) = if mf < (L : Int) + 2 ∨ mb < (T : Int) then shed mf mb (y :: r) else x :: y :: r) := hshe
      clear st qq hk hsh hmm hne eL eT hfl hsum hshe hcur
      have hL1 : (1 : Int) < (L : Int) + 2 := by omega
      by_cases h1 : mf < (L : Int) + 2
      · go_wp2_with fail
        go_quiet (fail)
        go_wp2_with fail
        go_region
        go_wp2
        go_roundg (L + 1)
        case measure => have := HK.out.1; have := HK.out.2.2.2.1; simp only [List.length_cons] at *; omega
        case rel => exact rel_pop HK.out.2.1 (HX.out.trans (if_pos (by omega))) HK.out.2.2.1 HK.out.2.2.2.1 HK.out.2.2.2.2.1 HK.out.2.2.2.2.2.1 HK.out.2.2.2.2.2.2 SS.out QQ.out (nq + 1)
      · have d1 : decide (mf < (L : Int) + 2) = false := by simpa using h1
        by_cases h2 : mb < (T : Int)
        · go_wp2_with fail
          go_quiet (fail)
          go_wp2_with fail
          go_region
          go_wp2
          go_roundg (L + 1)
          case measure => have := HK.out.1; have := HK.out.2.2.2.1; simp only [List.length_cons] at *; omega
          case rel => exact rel_pop HK.out.2.1 (HX.out.trans (if_pos (by omega))) HK.out.2.2.1 HK.out.2.2.2.1 HK.out.2.2.2.2.1 HK.out.2.2.2.2.2.1 HK.out.2.2.2.2.2.2 SS.out QQ.out (nq + 1)
        · have d2 : decide (mb < (T : Int)) = false := by simpa using h2
          go_wp2_with fail
          go_quiet (fail)
          go_wp2_with (first
            | (go_at_call 21; refine (unlock_held lib ⟨b, 2, none⟩ _ (SS.out.drew nq).box.c2 ((SS.out.drew nq).box.fz 2)).mono ?_; rintro e w' ⟨rfl, rfl⟩)
            | (go_at_call 22; refine (signal_any b mf mb _ _ _ c _ ((SS.out.drew nq).set2 0).box ((SS.out.drew nq).set2 0).chan).mono ?_; rintro e w7 ⟨rfl, hc7, ho7⟩))
          go_end0
          have a7 := ((SS.out.drew nq).set2 0).sig hc7 ho7
          have q7 := ((SS.out.drew nq).set2 0).qsig ho7 ((SS.out.drew nq).q QQ.out 2 (.int .i32 0))
          obtain ⟨_, k2, ⟨k3, k4⟩, _, k5, _⟩ := HK.out
          have k6 := HX.out
          rw [if_neg (by omega)] at k6
          rw [k5] at a7
          refine ⟨rfl, ⟨_, _, ?_, a7.chan, q7, ?_⟩, a7.keep⟩
          · rw [← k2, k6]; exact a7.box
          · rw [← k2, k6]; simp only [List.map_cons, k3, k4]; rfl
end Go.Proofs.Ybulkcsck.Ob
