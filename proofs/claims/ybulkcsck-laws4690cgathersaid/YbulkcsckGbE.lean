/-
  OWN TEXT. LawS4690CGather: the inner loop: the list of signatures
-/
import Derived.Test.YbulkcsckGbD
set_option linter.unusedSimpArgs false
set_option linter.unusedVariables false
namespace Go.Proofs.Ybulkcsck.Ga
open Go.RowKit
theorem built39 (x : Int) (p : Option Addr) (m c : Nat) : Yba.prog.built 39 [(0, .int .i64 x), (1, .slice p m c)] = some #[.int .i64 x, .slice p m c] := by
  have hz : ∃ z : List Value, z.length = 2 ∧ ∀ parts, Yba.prog.built 39 parts = Instr.fill (#[(0, 1), (1, 1)][·]?) z.toArray parts := by
    refine ⟨((Yba.t39.zero.getD undef).cells).toList, by kernel_rfl, fun parts => by kernel_rfl⟩
  obtain ⟨z, hzl, hb⟩ := hz
  rw [hb]
  have := fill_seq (#[(0, 1), (1, 1)][·]?) [(0, .int .i64 x), (1, .slice p m c)] [] z (by simp [seqOk, Value.cells]) (by simp [flat, Value.cells, hzl])
  simpa [flat, Value.cells] using this
theorem build26 (x : Int) (p : Option Addr) (m c : Nat) (w : World) : (Instr.buildSlice 26 1 #[(0, .agg #[.int .i64 x, .slice p m c])]).run Yba.prog w = .ok (.slice (some ⟨w.heap.size, 0, none⟩) 1 1) (w.alloc (.cells #[.int .i64 x, .slice p m c] 39)) := by simp [go_sem]
set_option maxRecDepth 100000 in
set_option maxHeartbeats 1600000 in
theorem p71 (Q : Exit → Act → World → Prop) (a : Act) (L : Lw) (w : World)  (F : Fr a L)
    (k : ∀ a', Fr a' L → Same [34, 35, 36, 37, 38, 39, 40, 41, 42, 43] a a' → a'.tmps[44]? = some (.slice none 0 0) → Q .normal a' w) : (nth 0 i70).wp Yba.prog Q a w := by
  simp only [i62, i70, l8, nth, b6, c6, Yba.f6, Option.getD, nB, cA, cB, cIn, cT]
  have hs := F.sz
  have FF : Hid (Fr a L) := F
  have K : Hid _ := k
  clear k F
  go_wp2
  refine K.out _ ?_ ?_ (by simp [hs])
  · (repeat (refine Fr.set ?_ _ _ (by decide)))
    exact FF.out
  · (repeat (refine Same.set ?_ _ _ (by decide)))
    exact Same.refl _ _
set_option maxRecDepth 100000 in
set_option maxHeartbeats 1600000 in
theorem p72 (Q : Exit → Act → World → Prop) (a : Act) (L : Lw) (w : World)  (F : Fr a L)
    (k : ∀ a', Fr a' L → Same [34, 35, 36, 37, 38, 39, 40, 41, 42, 43, 44] a a' → a'.tmps[45]? = some (.int .i64 ((0 : Nat) : Int)) → Q .normal a' w) : (cA (nth 1 i70)).wp Yba.prog Q a w := by
  simp only [i62, i70, l8, nth, b6, c6, Yba.f6, Option.getD, nB, cA, cB, cIn, cT]
  have hs := F.sz
  have FF : Hid (Fr a L) := F
  have K : Hid _ := k
  clear k F
  go_wp2
  refine K.out _ ?_ ?_ (by simp [hs])
  · (repeat (refine Fr.set ?_ _ _ (by decide)))
    exact FF.out
  · (repeat (refine Same.set ?_ _ _ (by decide)))
    exact Same.refl _ _
set_option maxRecDepth 100000 in
set_option maxHeartbeats 1600000 in
theorem p73y (Q : Exit → Act → World → Prop) (a : Act) (L : Lw) (w : World) (i : Nat) (h45 : a.tmps[45]? = some (.int .i64 (i : Nat))) (hi : i < L.cf.n) (F : Fr a L)
    (k : ∀ a', Fr a' L → Same [34, 35, 36, 37, 38, 39, 40, 41, 42, 43, 44, 45] a a' → Q .normal a' w) : (cA l8).wp Yba.prog Q a w := by
  simp only [i62, i70, l8, nth, b6, c6, Yba.f6, Option.getD, nB, cA, cB, cIn, cT]
  have hs := F.sz
  obtain ⟨p18, h18⟩ := sl F.s18
  obtain ⟨p45, h45'⟩ := sl h45
  have FF : Hid (Fr a L) := F
  have K : Hid _ := k
  clear k F
  have d1 : decide ((i : Int) < (L.cf.n : Int)) = true := decide_eq_true (by omega)
  refine wp_seq_k fun KK hKK => ?_
  have HK : Hid _ := hKK
  clear hKK
  go_wp2
  refine HK.out _ _ ?_
  clear HK KK
  refine wp_cond_true (by simp [Act.eval, Act.put, hs]) ?_
  refine wp_skip ?_
  refine K.out _ ?_ ?_ 
  · (repeat (refine Fr.set ?_ _ _ (by decide)))
    exact FF.out
  · (repeat (refine Same.set ?_ _ _ (by decide)))
    exact Same.refl _ _
set_option maxRecDepth 100000 in
set_option maxHeartbeats 1600000 in
theorem p73n (Q : Exit → Act → World → Prop) (a : Act) (L : Lw) (w : World) (i : Nat) (h45 : a.tmps[45]? = some (.int .i64 (i : Nat))) (hi : ¬ i < L.cf.n) (F : Fr a L)
    (k : ∀ a', Fr a' L → Same [34, 35, 36, 37, 38, 39, 40, 41, 42, 43, 44, 45] a a' → Q (.exit 8) a' w) : (cA l8).wp Yba.prog Q a w := by
  simp only [i62, i70, l8, nth, b6, c6, Yba.f6, Option.getD, nB, cA, cB, cIn, cT]
  have hs := F.sz
  obtain ⟨p18, h18⟩ := sl F.s18
  obtain ⟨p45, h45'⟩ := sl h45
  have FF : Hid (Fr a L) := F
  have K : Hid _ := k
  clear k F
  have d1 : decide ((i : Int) < (L.cf.n : Int)) = false := decide_eq_false (by omega)
  refine wp_seq_k fun KK hKK => ?_
  have HK : Hid _ := hKK
  clear hKK
  go_wp2
  refine HK.out _ _ ?_
  clear HK KK
  refine wp_cond_false (by simp [Act.eval, Act.put, hs]) ?_
  refine wp_exit ?_
  refine K.out _ ?_ ?_ 
  · (repeat (refine Fr.set ?_ _ _ (by decide)))
    exact FF.out
  · (repeat (refine Same.set ?_ _ _ (by decide)))
    exact Same.refl _ _
set_option maxRecDepth 100000 in
set_option maxHeartbeats 1600000 in
theorem p74 (Q : Exit → Act → World → Prop) (a : Act) (L : Lw) (w : World) (i : Nat) (h45 : a.tmps[45]? = some (.int .i64 (i : Nat))) (hi : i ≤ 1000) (F : Fr a L)
    (k : ∀ a', Fr a' L → Same [34, 35, 36, 37, 38, 39, 40, 41, 42, 43, 44] a a' → a'.tmps[45]? = some (.int .i64 ((i + 1 : Nat) : Int)) → Q .normal a' w) : (cB (cB l8)).wp Yba.prog Q a w := by
  simp only [i62, i70, l8, nth, b6, c6, Yba.f6, Option.getD, nB, cA, cB, cIn, cT]
  have hs := F.sz
  obtain ⟨p45, h45'⟩ := sl h45
  have FF : Hid (Fr a L) := F
  have K : Hid _ := k
  clear k F
  have w1 : IntKind.i64.wrap ((i : Int) + 1) = ((i + 1 : Nat) : Int) := by rw [wrap_small _ (by omega) (by omega)]; omega
  go_wp2
  refine K.out _ ?_ ?_ (by simp [hs])
  · (repeat (refine Fr.set ?_ _ _ (by decide)))
    exact FF.out
  · (repeat (refine Same.set ?_ _ _ (by decide)))
    exact Same.refl _ _
set_option maxRecDepth 100000 in
set_option maxHeartbeats 1600000 in
theorem p75n (Q : Exit → Act → World → Prop) (a : Act) (L : Lw) (w : World) (i : Nat) (h45 : a.tmps[45]? = some (.int .i64 (i : Nat))) (hi : i < L.cf.n) (s : Nat) (h1 : 1 ≤ s) (h3 : s ≤ 3) (h43 : a.tmps[43]? = some (.int .i64 (s : Nat))) (hA : w.cell? ⟨L.hA, s, none⟩ = some (.slice (some ⟨L.lh s, 0, none⟩) L.cf.n L.cf.n)) (hc : w.cell? ⟨L.lh s, i, none⟩ = some (.bool false)) (F : Fr a L)
    (k : ∀ a', Fr a' L → Same [34, 35, 36, 37, 38, 39, 40, 41, 42, 43, 44, 45] a a' → Q .normal a' w) : (cA (cB l8)).wp Yba.prog Q a w := by
  simp only [i62, i70, l8, nth, b6, c6, Yba.f6, Option.getD, nB, cA, cB, cIn, cT]
  have hs := F.sz
  obtain ⟨p30, h30⟩ := sl F.s30
  obtain ⟨p43, h43'⟩ := sl h43
  obtain ⟨p45, h45'⟩ := sl h45
  have FF : Hid (Fr a L) := F
  have K : Hid _ := k
  clear k F
  have s4 : ((s : Nat) : Int) < 4 := by omega
  refine wp_block ?_
  refine wp_seq_k fun KK hKK => ?_
  have HK : Hid _ := hKK
  clear hKK
  go_wp2
  refine HK.out _ _ ?_
  clear HK KK
  refine wp_cond_false (by simp [Act.eval, Act.put, hs]) ?_
  refine wp_skip ?_
  simp only [Exit.inBlock]
  refine K.out _ ?_ ?_ 
  · (repeat (refine Fr.set ?_ _ _ (by decide)))
    exact FF.out
  · (repeat (refine Same.set ?_ _ _ (by decide)))
    exact Same.refl _ _
set_option maxRecDepth 100000 in
set_option maxHeartbeats 1600000 in
theorem p75y (Q : Exit → Act → World → Prop) (a : Act) (L : Lw) (w : World) (i : Nat) (h45 : a.tmps[45]? = some (.int .i64 (i : Nat))) (hi : i < L.cf.n) (s : Nat) (h1 : 1 ≤ s) (h3 : s ≤ 3) (h43 : a.tmps[43]? = some (.int .i64 (s : Nat))) (hA : w.cell? ⟨L.hA, s, none⟩ = some (.slice (some ⟨L.lh s, 0, none⟩) L.cf.n L.cf.n)) (hI : w.cell? ⟨L.iA, s, none⟩ = some (.slice (some ⟨L.li s, 0, none⟩) L.cf.n L.cf.n)) (hc : w.cell? ⟨L.lh s, i, none⟩ = some (.bool true)) (kx : Nat) (hkx : kx < L.ln) (hk : w.cell? ⟨L.li s, i, none⟩ = some (.int .i64 (kx : Nat))) (bx ox : Nat) (hps : L.ps = some ⟨bx, ox, none⟩) (dp : Option Addr) (dm dc : Nat) (hd : w.cell? ⟨bx, ox + kx * 5 + 4, none⟩ = some (.slice dp dm dc)) (p : Option Addr) (m c : Nat) (h44 : a.tmps[44]? = some (.slice p m c)) (v' : Value) (w' : World) (hap : (Builtin.append_ #[26, 26] 26 #[.slice p m c, .slice (some ⟨w.heap.size, 0, none⟩) 1 1]).run Yba.prog (w.alloc (.cells #[.int .i64 (i : Nat), .slice dp dm dc] 39)) = .ok v' w') (F : Fr a L)
    (k : ∀ a', Fr a' L → Same [34, 35, 36, 37, 38, 39, 40, 41, 42, 43, 45] a a' → a'.tmps[44]? = some v' → Q .normal a' w') : (cA (cB l8)).wp Yba.prog Q a w := by
  simp only [i62, i70, l8, nth, b6, c6, Yba.f6, Option.getD, nB, cA, cB, cIn, cT]
  have hs := F.sz
  obtain ⟨p7, h7⟩ := sl F.s7
  obtain ⟨p30, h30⟩ := sl F.s30
  obtain ⟨p31, h31⟩ := sl F.s31
  obtain ⟨p43, h43'⟩ := sl h43
  obtain ⟨p44, h44'⟩ := sl h44
  obtain ⟨p45, h45'⟩ := sl h45
  have FF : Hid (Fr a L) := F
  have K : Hid _ := k
  clear k F
  have s4 : ((s : Nat) : Int) < 4 := by omega
  rw [hps] at h7
  have HAP : Hid ((Builtin.append_ #[26, 26] 26 #[.slice p m c, .slice (some ⟨w.heap.size, 0, none⟩) 1 1]).run Yba.prog (w.alloc (.cells #[.int .i64 (i : Nat), .slice dp dm dc] 39)) = .ok v' w') := hap
  clear hap hps
  refine wp_block ?_
  refine wp_seq_k fun KK hKK => ?_
  have HK : Hid _ := hKK
  clear hKK
  go_wp2
  refine HK.out _ _ ?_
  clear HK KK
  refine wp_cond_true (by simp [Act.eval, Act.put, hs]) ?_
  refine wp_region_lit ?_
  iterate 12 (refine wpList_val rfl _ (by simp [go_sem, execOp, Act.eval, Act.put, hs, h44', h45', h7, h43', h31, hI, hk, hd, hi, hkx, s4]; first | done | rfl) ?_)
  refine wpList_build_any rfl 39 rfl (built39 (i : Int) dp dm dc) (by simp [Act.eval, Act.put, hs]) ?_
  refine wpList_plain rfl fun _ hK => ?_
  refine Rt.wp_buildSlice (vs := #[(0, .agg #[.int .i64 (i : Nat), .slice dp dm dc])]) rfl (by simp [Act.eval, Act.put, hs]) (build26 _ dp dm dc w) ?_
  refine hK _ _ ?_
  refine wpList_append_any rfl (.tmp 302) (.tmp 315) 26 26 26 rfl rfl (v := .slice p m c) (y := .slice (some ⟨w.heap.size, 0, none⟩) 1 1) (by simp [Act.eval, Act.put, hs]) (by simp [Act.eval, Act.put, hs]) HAP.out ?_
  simp only [Act.put]
  go_wp2
  refine K.out _ ?_ ?_ (by simp [hs])
  · (repeat (refine Fr.set ?_ _ _ (by decide)))
    exact FF.out
  · (repeat (refine Same.set ?_ _ _ (by decide)))
    exact Same.refl _ _
set_option maxRecDepth 100000 in
set_option maxHeartbeats 1600000 in
theorem p77 (Q : Exit → Act → World → Prop) (a : Act) (L : Lw) (w : World) (p : Option Addr) (n c s : Nat) (v' : Value) (w' : World) (h36 : a.tmps[36]? = some (.slice p n c)) (h43 : a.tmps[43]? = some (.int .i64 (s : Nat))) (hap : (Builtin.append_ #[60, 60] 60 #[.slice p n c, .slice (some ⟨w.heap.size, 0, none⟩) 1 1]).run Yba.prog (w.alloc (.cells #[.int .i64 (s : Nat)] 3)) = .ok v' w') (F : Fr a L)
    (k : ∀ a', Fr a' L → Same [34, 35, 37, 38, 39, 40, 41, 42, 43, 44, 45] a a' → a'.tmps[36]? = some v' → Q .normal a' w') : (nth 2 i70).wp Yba.prog Q a w := by
  simp only [i62, i70, l8, nth, b6, c6, Yba.f6, Option.getD, nB, cA, cB, cIn, cT]
  have hs := F.sz
  obtain ⟨p36, h36'⟩ := sl h36
  obtain ⟨p43, h43'⟩ := sl h43
  have FF : Hid (Fr a L) := F
  have K : Hid _ := k
  clear k F
  have HAP : Hid _ := hap
  clear hap
  refine wp_region_lit ?_
  iterate 2 (refine wpList_val rfl _ (by simp [go_sem, execOp, Act.eval, Act.put, hs, h36', h43']; first | done | rfl) ?_)
  refine wpList_plain rfl fun _ hK => ?_
  refine Rt.wp_buildSlice (vs := #[(0, .int .i64 (s : Nat))]) rfl (by simp [Act.eval, Act.put, hs]) (buildL60 _ w) ?_
  refine hK _ _ ?_
  refine wpList_append_any rfl (.tmp 317) (.tmp 319) 60 60 60 rfl rfl (v := .slice p n c) (y := .slice (some ⟨w.heap.size, 0, none⟩) 1 1) (by simp [Act.eval, Act.put, hs]) (by simp [Act.eval, Act.put, hs]) HAP.out ?_
  simp only [Act.put]
  go_wp2
  refine K.out _ ?_ ?_ (by simp [hs])
  · (repeat (refine Fr.set ?_ _ _ (by decide)))
    exact FF.out
  · (repeat (refine Same.set ?_ _ _ (by decide)))
    exact Same.refl _ _
set_option maxRecDepth 100000 in
set_option maxHeartbeats 1600000 in
theorem p78 (Q : Exit → Act → World → Prop) (a : Act) (L : Lw) (w : World) (p p4 : Option Addr) (n c n4 c4 : Nat) (v' : Value) (w' : World) (h37 : a.tmps[37]? = some (.slice p n c)) (h44 : a.tmps[44]? = some (.slice p4 n4 c4)) (hap : (Builtin.append_ #[107, 107] 107 #[.slice p n c, .slice (some ⟨w.heap.size, 0, none⟩) 1 1]).run Yba.prog (w.alloc (.cells #[.slice p4 n4 c4] 26)) = .ok v' w') (F : Fr a L)
    (k : ∀ a', Fr a' L → Same [34, 35, 36, 38, 39, 40, 41, 42, 43, 44, 45] a a' → a'.tmps[37]? = some v' → Q .normal a' w') : (nB 3 i70).wp Yba.prog Q a w := by
  simp only [i62, i70, l8, nth, b6, c6, Yba.f6, Option.getD, nB, cA, cB, cIn, cT]
  have hs := F.sz
  obtain ⟨p37, h37'⟩ := sl h37
  obtain ⟨p44, h44'⟩ := sl h44
  have FF : Hid (Fr a L) := F
  have K : Hid _ := k
  clear k F
  have HAP : Hid _ := hap
  clear hap
  refine wp_region_lit ?_
  iterate 2 (refine wpList_val rfl _ (by simp [go_sem, execOp, Act.eval, Act.put, hs, h37', h44']; first | done | rfl) ?_)
  refine wpList_plain rfl fun _ hK => ?_
  refine Rt.wp_buildSlice (vs := #[(0, .slice p4 n4 c4)]) rfl (by simp [Act.eval, Act.put, hs]) (build107 p4 n4 c4 w) ?_
  refine hK _ _ ?_
  refine wpList_append_any rfl (.tmp 321) (.tmp 323) 107 107 107 rfl rfl (v := .slice p n c) (y := .slice (some ⟨w.heap.size, 0, none⟩) 1 1) (by simp [Act.eval, Act.put, hs]) (by simp [Act.eval, Act.put, hs]) HAP.out ?_
  simp only [Act.put]
  go_wp2
  refine K.out _ ?_ ?_ (by simp [hs])
  · (repeat (refine Fr.set ?_ _ _ (by decide)))
    exact FF.out
  · (repeat (refine Same.set ?_ _ _ (by decide)))
    exact Same.refl _ _

/-- the loop that gathers the list -/
theorem p72L (Q : Exit → Act → World → Prop) (a : Act) (L : Lw) (w : World) (s : Nat) (h1 : 1 ≤ s) (h3 : s ≤ 3) (h43 : a.tmps[43]? = some (.int .i64 (s : Nat))) (h44 : a.tmps[44]? = some (.slice none 0 0)) (hs : List Bool) (sg : List Value) (lh : hs.length = L.cf.n) (lg : sg.length = L.cf.n) (hn : L.cf.n ≤ 1000)
    (hA : w.cell? ⟨L.hA, s, none⟩ = some (.slice (some ⟨L.lh s, 0, none⟩) L.cf.n L.cf.n)) (hI : w.cell? ⟨L.iA, s, none⟩ = some (.slice (some ⟨L.li s, 0, none⟩) L.cf.n L.cf.n))
    (hh : ∀ (i : Nat) (b : Bool), hs[i]? = some b → w.cell? ⟨L.lh s, i, none⟩ = some (.bool b))
    (hk : ∀ i, hs[i]? = some true → ∃ kx bx ox dp dm dc, kx < L.ln ∧ w.cell? ⟨L.li s, i, none⟩ = some (.int .i64 (kx : Nat)) ∧ L.ps = some ⟨bx, ox, none⟩ ∧ w.cell? ⟨bx, ox + kx * 5 + 4, none⟩ = some (.slice dp dm dc) ∧ sg[i]? = some (.slice dp dm dc)) (F : Fr a L)
    (k : ∀ a' w' p m c, Fr a' L → Same [34, 35, 36, 37, 38, 39, 40, 41, 42, 43] a a' → a'.tmps[44]? = some (.slice p m c) → w'.ownsRow w.heap.size 39 2 (.slice p m c) m (sigL 0 hs sg) → Below w.heap.size w w' → Q .normal a' w') : (nth 1 i70).wp Yba.prog Q a w := by
  have e : nth 1 i70 = .seq (cA (nth 1 i70)) (.block 8 (.loop l8)) := rfl
  rw [e]
  refine wp_seq (p72 _ a L w F fun a1 F1 S1 h45 => ?_)
  refine wp_block (wp_loop (fun a' w' => ∃ i m p c, i ≤ L.cf.n ∧ m ≤ i ∧ a'.tmps[45]? = some (.int .i64 ((i : Nat) : Int)) ∧ a'.tmps[44]? = some (.slice p m c) ∧ w'.ownsRow w.heap.size 39 2 (.slice p m c) m (sigL 0 (hs.take i) (sg.take i)) ∧ Below w.heap.size w w' ∧ Fr a' L ∧ Same [34, 35, 36, 37, 38, 39, 40, 41, 42, 43] a a')
    (fun a' _ => L.cf.n - (intOf (a'.tmps[45]?.getD .nilIface)).toNat) ⟨0, 0, none, 0, Nat.zero_le _, Nat.le_refl _, h45, (S1 44 (by decide)).trans h44, by simpa [sigL] using World.ownsRow_nil _ _ _ _, Below.refl _ _, F1, S1.sub (by decide)⟩ ?_)
  rintro a2 w2 ⟨i, m, p, c, hi, hm, g45, g44, ho, hb, F2, S2⟩
  have e8 : l8 = .seq (cA l8) (.seq (cA (cB l8)) (cB (cB l8))) := rfl
  rw [e8]
  have T : ∀ {q : Addr} {v : Value}, w.cell? q = some v → w2.cell? q = some v := fun {q v} h => (hb.cell (World.block_lt_of_cell? w q h)).trans h
  have g43 := (S2 43 (by decide)).trans h43
  by_cases hin : i < L.cf.n
  · refine wp_seq (p73y _ a2 L w2 i g45 hin F2 fun a3 F3 S3 => ?_)
    obtain ⟨b, hbv⟩ : ∃ b, hs[i]? = some b := ⟨_, List.getElem?_eq_getElem (by omega)⟩
    obtain ⟨u, huv⟩ : ∃ u, sg[i]? = some u := ⟨_, List.getElem?_eq_getElem (by omega)⟩
    have tk := sigL_take (lh.trans lg.symm) hbv huv
    have fin : ∀ (a5 : Act) (w5 : World) (m5 : Nat) (p5 : Option Addr) (c5 : Nat), m5 ≤ i + 1 → Fr a5 L → Same [34, 35, 36, 37, 38, 39, 40, 41, 42, 43, 45] a2 a5 → a5.tmps[44]? = some (.slice p5 m5 c5) → w5.ownsRow w.heap.size 39 2 (.slice p5 m5 c5) m5 (sigL 0 (hs.take (i + 1)) (sg.take (i + 1))) → Below w.heap.size w w5 →
        (cB (cB l8)).wp Yba.prog (Exit.then (fun a' w' => (∃ i m p c, i ≤ L.cf.n ∧ m ≤ i ∧ a'.tmps[45]? = some (.int .i64 ((i : Nat) : Int)) ∧ a'.tmps[44]? = some (.slice p m c) ∧ w'.ownsRow w.heap.size 39 2 (.slice p m c) m (sigL 0 (hs.take i) (sg.take i)) ∧ Below w.heap.size w w' ∧ Fr a' L ∧ Same [34, 35, 36, 37, 38, 39, 40, 41, 42, 43] a a') ∧ L.cf.n - (intOf (a'.tmps[45]?.getD .nilIface)).toNat < L.cf.n - (intOf (a2.tmps[45]?.getD .nilIface)).toNat) (Exit.inBlock 8 Q)) a5 w5 := by
      intro a5 w5 m5 p5 c5 hm5 F5 S5 q44 ho5 hb5
      refine p74 _ a5 L w5 i ((S5 45 (by decide)).trans g45) (by omega) F5 fun a6 F6 S6 q45 => ?_
      refine ⟨⟨i + 1, m5, p5, c5, hin, hm5, q45, (S6 44 (by decide)).trans q44, ho5, hb5, F6, S2.trans ((S5.sub (by decide)).trans (S6.sub (by decide)))⟩, ?_⟩
      rw [q45, g45]
      simp [intOf]
      omega
    cases b
    · refine wp_seq (p75n _ a3 L w2 i ((S3 45 (by decide)).trans g45) hin s h1 h3 ((S3 43 (by decide)).trans g43) (T hA) (T (hh i _ hbv)) F3 fun a4 F4 S4 => ?_)
      rw [if_neg (by decide), List.append_nil] at tk
      exact fin a4 w2 m p c (by omega) F4 ((S3.sub (by decide)).trans (S4.sub (by decide))) ((S4 44 (by decide)).trans ((S3 44 (by decide)).trans g44)) (by rw [tk]; exact ho) hb
    · obtain ⟨kx, bx, ox, dp, dm, dc, k1, k2, k3, k4, k5⟩ := hk i hbv
      obtain ⟨p', c', w', hap, ho', hb'⟩ := app39 ho hb.size (by omega) (i : Int) dp dm dc
      refine wp_seq (p75y _ a3 L w2 i ((S3 45 (by decide)).trans g45) hin s h1 h3 ((S3 43 (by decide)).trans g43) (T hA) (T hI) (T (hh i _ hbv)) kx k1 (T k2) bx ox k3 dp dm dc (T k4) p m c ((S3 44 (by decide)).trans g44) _ w' hap F3 fun a4 F4 S4 q44 => ?_)
      rw [huv] at k5
      cases k5
      rw [if_pos rfl] at tk
      exact fin a4 w' (m + 1) p' c' (by omega) F4 ((S3.sub (by decide)).trans (S4.sub (by decide))) q44 (by rw [tk]; exact ho') (hb.trans hb')
  · refine wp_seq (p73n _ a2 L w2 i g45 hin F2 fun a3 F3 S3 => ?_)
    have ei : i = L.cf.n := by omega
    rw [List.take_of_length_le (by omega), List.take_of_length_le (by omega)] at ho
    show Exit.inBlock 8 Q (.exit 8) a3 w2
    simp only [Exit.inBlock, if_true]
    exact k a3 w2 p m c F3 (S2.trans (S3.sub (by decide))) ((S3 44 (by decide)).trans g44) ho hb
end Go.Proofs.Ybulkcsck.Ga
