/-
  OWN TEXT. LawS4690CGather: the list of signatures, Quorum, voting.
-/
import Derived.Test.YbulkcsckGaG
import Derived.BigQuiet
namespace Go.Proofs.Ybulkcsck.Ga
open Go.RowKit

/-- the signatures of a set, in increasing order of signer -/
def sigL : Nat → List Bool → List Value → List Value
  | k, true :: hs, v :: sg => .int .i64 k :: v :: sigL (k + 1) hs sg
  | k, false :: hs, _ :: sg => sigL (k + 1) hs sg
  | _, _, _ => []
def cntB (hs : List Bool) : Nat := hs.countP id
theorem sigL_snoc : ∀ (hs : List Bool) (sg : List Value) (k : Nat) (b : Bool) (v : Value), hs.length = sg.length → sigL k (hs ++ [b]) (sg ++ [v]) = sigL k hs sg ++ (if b then [.int .i64 ((k + hs.length : Nat) : Int), v] else [])
  | [], [], k, b, v, _ => by cases b <;> simp [sigL]
  | true :: hs, u :: sg, k, b, v, h => by
    have := sigL_snoc hs sg (k + 1) b v (by simpa using h)
    simp only [List.cons_append, sigL, this, List.length_cons, show k + 1 + hs.length = k + (hs.length + 1) by omega]
  | false :: hs, u :: sg, k, b, v, h => by
    have := sigL_snoc hs sg (k + 1) b v (by simpa using h)
    simp only [List.cons_append, sigL, this, List.length_cons, show k + 1 + hs.length = k + (hs.length + 1) by omega]
  | [], _ :: _, _, _, _, h => by simp at h
  | _ :: _, [], _, _, _, h => by simp at h
theorem sigL_take {hs : List Bool} {sg : List Value} {j : Nat} {b : Bool} {v : Value} (hl : hs.length = sg.length) (hb : hs[j]? = some b) (hv : sg[j]? = some v) : sigL 0 (hs.take (j + 1)) (sg.take (j + 1)) = sigL 0 (hs.take j) (sg.take j) ++ (if b then [.int .i64 (j : Int), v] else []) := by
  have l1 := (List.getElem?_eq_some_iff.1 hb).1
  have l2 := (List.getElem?_eq_some_iff.1 hv).1
  have e1 : hs.take (j + 1) = hs.take j ++ [b] := by rw [List.take_add_one, hb]; rfl
  have e2 : sg.take (j + 1) = sg.take j ++ [v] := by rw [List.take_add_one, hv]; rfl
  rw [e1, e2, sigL_snoc _ _ 0 b v (by simp; omega)]
  simp only [List.length_take, Nat.zero_add, Nat.min_eq_left (Nat.le_of_lt l1)]

/-- one signature more, in a row of the call's own -/
theorem app39 {w : World} {base : Nat} {p : Option Addr} {m c : Nat} {xs : List Value} (h : w.ownsRow base 39 2 (.slice p m c) m xs) (hB : base ≤ w.heap.size) (hn : m ≤ 1000) (i : Int) (ps : Option Addr) (ns cs : Nat) :
    ∃ p' c' w', (Builtin.append_ #[26, 26] 26 #[.slice p m c, .slice (some ⟨w.heap.size, 0, none⟩) 1 1]).run Yba.prog (w.alloc (.cells #[.int .i64 i, .slice ps ns cs] 39)) = .ok (.slice p' (m + 1) c') w' ∧ w'.ownsRow base 39 2 (.slice p' (m + 1) c') (m + 1) (xs ++ [.int .i64 i, .slice ps ns cs]) ∧ Below base w w' := by
  obtain ⟨inf, z, hi, hz, hs, hb, hzs⟩ := ti39.hi
  have b1 : Below w.heap.size w (w.alloc (.cells #[.int .i64 i, .slice ps ns cs] 39)) := (Below.refl _ _).alloc (Nat.le_refl _) _
  have h' := owns_below h b1
  obtain ⟨v', w', hr, ho, hg, _⟩ := run_append_own (P := Yba.prog) (w.alloc (.cells #[.int .i64 i, .slice ps ns cs] 39)) base 26 26 39 inf z 2 32 ti39.ht hi hz hs hb hzs (by decide) _ m xs h' ⟨w.heap.size, 0, none⟩ 1 1 [.int .i64 i, .slice ps ns cs] rfl (fun j u hj => new_cell w [.int .i64 i, .slice ps ns cs] 39 _ rfl hj) (fun u hu => by simp at hu; rcases hu with rfl | rfl <;> rfl) (by unfold maxLen; omega) (by omega) (Nat.le_trans hB b1.size)
  obtain ⟨p', c', rfl⟩ := owns_shape ho
  exact ⟨p', c', w', hr, ho, (b1.mono hB).grown hg (Nat.le_trans hB b1.size) (owns_block h')⟩

/-- what list answers -/
def ListP (w : World) (hs : List Bool) (sg : List Value) (e : Ending) (w' : World) : Prop := ∃ v' m, e = .returned v' ∧ w'.ownsRow w.heap.size 39 2 v' m (sigL 0 hs sg) ∧ Below w.heap.size w w'

theorem make26 (w : World) (cnt : Nat) (hc : cnt ≤ 1000) : ∃ Z, (Instr.makeSlice 26 (.int .i64 0) (.int .i64 (cnt : Int))).run Yba.prog w = .ok (.slice (some ⟨w.heap.size, 0, none⟩) 0 cnt) (w.alloc (.cells Z 39)) ∧ (w.alloc (.cells Z 39)).ownsRow w.heap.size 39 2 (.slice (some ⟨w.heap.size, 0, none⟩) 0 cnt) 0 [] := by
  obtain ⟨i, z, hi, hz, hs, hb, hzs⟩ := ti39.hi
  have hmk := run_make (P := Yba.prog) w 26 39 i z ti39.ht hi hz .i64 .i64 0 cnt (by omega) (by omega) (by rw [hb]; omega) (by omega)
  refine ⟨_, by simpa using hmk, ⟨by simp, .inr ⟨w.heap.size, cnt, _, rfl, Nat.le_refl _, heap_alloc_new w _, Nat.zero_le _, by unfold maxLen; omega, ?_, by simp⟩⟩⟩
  rw [size_madeCells]
  simp [hs]

set_option maxRecDepth 100000 in
set_option maxHeartbeats 1600000 in
theorem list_any (ρ : Nat → Nat) (s : Nat) (w : World) (vb hb gb n cnt : Nat) (hs : List Bool) (sg : List Value) (k : Ss ρ s w vb hb gb n cnt hs sg) (hsl : ∀ v ∈ sg, ∃ p m c, v = .slice p m c) (hc : cnt ≤ 1000) (hn : n ≤ 1000) :
    Calls Yba.prog 28 #[.pointer (some ⟨vb, 0, none⟩)] w (ListP w hs sg) := by
  obtain ⟨Z, hmk, ho⟩ := make26 w cnt hc
  have b0 : Below w.heap.size w (w.alloc (.cells Z 39)) := (Below.refl _ w).alloc (Nat.le_refl _) _
  have cell : Hid (∀ wr, Below w.heap.size w wr → wr.cell? ⟨vb, 0, none⟩ = some (.slice (some ⟨hb, 0, none⟩) n n) ∧ wr.cell? ⟨vb, 2, none⟩ = some (.slice (some ⟨gb, 0, none⟩) n n) ∧ (∀ j b, hs[j]? = some b → wr.cell? ⟨hb, j, none⟩ = some (.bool b)) ∧ (∀ j u, sg[j]? = some u → wr.cell? ⟨gb, j, none⟩ = some u)) := fun wr h =>
    ⟨(h.cell (p := ⟨vb, 0, none⟩) k.v.lt).trans (k.v.cell rfl), (h.cell (p := ⟨vb, 2, none⟩) k.v.lt).trans (k.v.cell rfl), fun j b hj => (h.cell (p := ⟨hb, j, none⟩) k.h.lt).trans (k.bool hj), fun j u hj => (h.cell (p := ⟨gb, j, none⟩) k.g.lt).trans (k.g.cell (by simpa using hj))⟩
  have cc1 : w.cell? ⟨vb, 1, none⟩ = some (.int .i64 cnt) := k.v.cell rfl
  have LH : Hid (hs.length = n) := k.lh
  have LG : Hid (sg.length = n) := k.lg
  have HSL : Hid (∀ v ∈ sg, ∃ p m c, v = .slice p m c) := hsl
  have O0 : Hid ((w.alloc (.cells Z 39)).ownsRow w.heap.size 39 2 (.slice (some ⟨w.heap.size, 0, none⟩) 0 cnt) 0 []) := ho
  have B0 : Hid (Below w.heap.size w (w.alloc (.cells Z 39))) := b0
  have q0 := (cell.out _ b0).1
  clear k hsl ho b0
  go_enter Yba.func28, Yba.ntmps28
  go_wp2_with fail
  clear hmk cc1 q0
  go_loopw [3, 4, 5, 18] (fun s3 _ _ s18 wr => ∃ (j m : Nat) (p : Option Addr) (c : Nat), j ≤ n ∧ m ≤ j ∧ s18 = .int .i64 j ∧ s3 = .slice p m c ∧ wr.ownsRow w.heap.size 39 2 (.slice p m c) m (sigL 0 (hs.take j) (sg.take j)) ∧ Below w.heap.size w wr) (fun _ _ _ i _ => n - (intOf i).toNat)
  case atStart => exact ⟨0, 0, _, _, Nat.zero_le _, Nat.le_refl _, rfl, rfl, by simpa [sigL] using O0.out, B0.out⟩
  case round =>
    obtain ⟨j, m, p, c, hj, hm, rfl, rfl, ho, bel⟩ := hrel
    have OO : Hid (wr.ownsRow w.heap.size 39 2 (.slice p m c) m (sigL 0 (hs.take j) (sg.take j))) := ho
    have BB : Hid (Below w.heap.size w wr) := bel
    obtain ⟨e0, e2, eh, eg⟩ := cell.out wr bel
    clear ho bel
    by_cases hlt : j < n
    · obtain ⟨b, hb'⟩ : ∃ b, hs[j]? = some b := ⟨_, List.getElem?_eq_getElem (by have := LH.out; omega)⟩
      obtain ⟨u, hu⟩ : ∃ u, sg[j]? = some u := ⟨_, List.getElem?_eq_getElem (by have := LG.out; omega)⟩
      obtain ⟨pu, mu, cu, rfl⟩ := HSL.out u (List.mem_of_getElem? hu)
      have ch := eh j b hb'
      have cg := eg j _ hu
      have tk : Hid _ := sigL_take (by rw [LH.out, LG.out]) hb' hu
      have hlt' : (j : Int) < (n : Int) := by omega
      clear eh eg hb' hu
      cases b
      · go_wp2
        refine ⟨⟨j + 1, m, p, c, by omega, by omega, by simp, rfl, ?_, BB.out⟩, ?_⟩
        · rw [tk.out]; simpa using OO.out
        · simp [intOf]
          omega
      · obtain ⟨p', c', w', hap, ho', hb''⟩ := app39 OO.out BB.out.size (by omega) (j : Int) pu mu cu
        have HAP : Hid ((Builtin.append_ #[26, 26] 26 #[.slice p m c, .slice (some ⟨wr.heap.size, 0, none⟩) 1 1]).run Yba.prog (wr.alloc (.cells #[.int .i64 j, .slice pu mu cu] 39)) = .ok (.slice p' (m + 1) c') w') := hap
        have O' : Hid (w'.ownsRow w.heap.size 39 2 (.slice p' (m + 1) c') (m + 1) (sigL 0 (hs.take (j + 1)) (sg.take (j + 1)))) := by
          unfold Hid; rw [tk.out]; simpa using ho'
        have B' : Hid (Below w.heap.size w w') := BB.out.trans hb''
        have M1 : Hid (m + 1 ≤ j + 1) := by unfold Hid; omega
        clear hap ho' hb'' OO BB tk hm
        generalize m + 1 = m1 at HAP O' M1
        go_wp2_with (at_builtin; (with_reducible refine wpList_append_any ?_ (.tmp 24) (.tmp 34) 26 26 26 ?_ ?_ (v := .slice p m c) (y := .slice (some ⟨wr.heap.size, 0, none⟩) 1 1) ?_ ?_ HAP.out ?_); (first | exact rfl | skip); (first | exact rfl | skip); (first | exact rfl | skip); (first | exact rfl | skip); (first | exact rfl | skip))
        refine ⟨⟨j + 1, m1, p', c', by omega, M1.out, by simp, rfl, O'.out, B'.out⟩, ?_⟩
        simp [intOf]
        omega
    · have ej : j = n := by omega
      subst ej
      clear eh eg
      have t1 : hs.take j = hs := List.take_of_length_le (by rw [LH.out]; exact Nat.le_refl _)
      have t2 : sg.take j = sg := List.take_of_length_le (by rw [LG.out]; exact Nat.le_refl _)
      rw [t1, t2] at OO
      clear t1 t2
      go_wp2
      go_ret
      exact ⟨_, m, rfl, OO.out, BB.out⟩

set_option maxRecDepth 100000 in
set_option maxHeartbeats 800000 in
theorem quorum_any (n f : Nat) (ik : TypeId) (pk : Option Addr) (pay : Value) (w : World) (hn : n ≤ 1000) (hf : f ≤ n) :
    Calls Yba.prog 27 #[.agg [.int .i64 n, .int .i64 f, .iface ik (.pointer pk), pay].toArray] w fun e w' => e = .returned (.int .i64 ((n - f : Nat) : Int)) ∧ Below w.heap.size w w' := by
  have b1 : Hid (Below w.heap.size w (w.alloc (.cells [.int .i64 n, .int .i64 f, .iface ik (.pointer pk), pay].toArray 49))) := (Below.refl _ _).alloc (Nat.le_refl _) _
  have c0 : (w.alloc (.cells [.int .i64 n, .int .i64 f, .iface ik (.pointer pk), pay].toArray 49)).cell? ⟨w.heap.size, 0, none⟩ = some (.int .i64 n) := by simp [go_sem]
  have c1 : (w.alloc (.cells [.int .i64 n, .int .i64 f, .iface ik (.pointer pk), pay].toArray 49)).cell? ⟨w.heap.size, 1, none⟩ = some (.int .i64 f) := by simp [go_sem]
  generalize hL : [Value.int .i64 n, .int .i64 f, .iface ik (.pointer pk), pay].toArray = L at *
  have hsub : Hid ((n : Int) - (f : Int) = ((n - f : Nat) : Int)) := by unfold Hid; omega
  clear hL
  generalize ((n - f : Nat) : Int) = D at hsub ⊢
  go_enter Yba.func27, Yba.ntmps27
  go_wp2
  go_ret
  refine ⟨?_, b1.out⟩
  rw [← hsub.out]
  rfl

set_option maxRecDepth 100000 in
set_option maxHeartbeats 800000 in
theorem voting_any (rb : Nat) (lv : Bool) (wi vw : Int) (w : World) (h12 : w.cell? ⟨rb, 12, none⟩ = some (.bool lv)) (h11 : w.cell? ⟨rb, 11, none⟩ = some (.int .i64 wi)) (h10 : w.cell? ⟨rb, 10, none⟩ = some (.int .i64 vw)) :
    Calls Yba.prog 23 #[.pointer (some ⟨rb, 0, none⟩)] w fun e w' => e = .returned (.bool (!lv && decide (wi ≤ vw))) ∧ Below w.heap.size w w' := by
  have b1 : Hid (∀ k, Below w.heap.size w (w.drewN k)) := fun k => (Below.refl _ w).trans ⟨rfl, rfl, rfl, Nat.le_refl _, fun _ _ => rfl⟩
  cases lv
  · by_cases hw : wi ≤ vw
    · have hd : decide (wi ≤ vw) = true := decide_eq_true hw
      go_enter Yba.func23, Yba.ntmps23
      go_wp2_with fail
      go_quiet (fail)
      go_wp2
      go_ret
      exact ⟨by simp [hw], b1.out _⟩
    · have hd : decide (wi ≤ vw) = false := decide_eq_false hw
      go_enter Yba.func23, Yba.ntmps23
      go_wp2_with fail
      go_quiet (fail)
      go_wp2
      go_ret
      exact ⟨by simp [hw], b1.out _⟩
  · go_enter Yba.func23, Yba.ntmps23
    go_wp2_with fail
    go_quiet (fail)
    go_wp2
    go_ret
    exact ⟨rfl, b1.out _⟩
end Go.Proofs.Ybulkcsck.Ga
