/-
  OWN TEXT. LawS4690AReport: the leaves: bit, cmp.Compare, cmp.Or, certifies, viewRank.compare; QCs as lists of cells.
-/
import Derived.Test.YbulkcsckRows
import Derived.Test.YbulkcsckRt
import Derived.Deep.RegionHeld3
namespace Go.Proofs.Ybulkcsck
open Go.RowKit

theorem ret_int {k : IntKind} {a b : Int} (h : a = b) : Ending.returned (.int k a) = .returned (.int k b) := by rw [h]
theorem ret_bool {a b : Bool} (h : a = b) : Ending.returned (.bool a) = .returned (.bool b) := by rw [h]

/-! ### bit -/
def bitB (m : Int) (i : Nat) : Bool := bits .and .u32 (m / 2 ^ i) 1 == 1
set_option maxHeartbeats 400000 in
theorem bit_any (m : Int) (i : Nat) (w : World) (h : i ≤ 32) :
    Calls Yba.prog 7 #[.int .u32 m, .int .u64 i] w fun e w' => e = .returned (.bool (bitB m i)) ∧ w' = w := by
  have hi : (i : Int) ≤ 32 := by omega
  have h0 : (0 : Int) ≤ i := by omega
  have e : Hid (bitB m i = (bits .and .u32 (m / 2 ^ i) 1 == 1)) := rfl
  go_enter Yba.func7, Yba.ntmps7
  go_wp2
  go_ret
  exact ⟨ret_bool (by rw [e.out]), rfl⟩

/-! ### cmp -/
def cmpI (x y : Int) : Int := if x < y then -1 else if y < x then 1 else 0
def orI (x y : Int) : Int := if x = 0 then y else x
theorem orI_zero (y : Int) : orI 0 y = y := rfl
theorem orI_ne {x : Int} (y : Int) (h : ¬ x = 0) : orI x y = x := if_neg h

set_option maxHeartbeats 400000 in
theorem compare_any (x y : Int) (w : World) :
    Calls Yba.prog 51 #[.int .i64 x, .int .i64 y] w fun e w' => e = .returned (.int .i64 (cmpI x y)) ∧ w' = w := by
  have e : Hid (cmpI x y = if x < y then -1 else if y < x then 1 else 0) := rfl
  go_enter Yba.func51, Yba.ntmps51
  go_wp2
  · go_ret; exact ⟨ret_int (by rw [e.out, if_pos ‹_›]), rfl⟩
  · go_ret; exact ⟨ret_int (by rw [e.out, if_neg (by omega), if_pos ‹_›]), rfl⟩
  · go_ret; exact ⟨ret_int (by rw [e.out, if_neg (by omega), if_neg (by omega)]), rfl⟩

set_option maxHeartbeats 400000 in
theorem or_any (b o : Nat) (x y : Int) (w : World) (h0 : w.cell? ⟨b, o, none⟩ = some (.int .i64 x)) (h1 : w.cell? ⟨b, o + 1, none⟩ = some (.int .i64 y)) :
    Calls Yba.prog 48 #[.slice (some ⟨b, o, none⟩) 2 2] w fun e w' => e = .returned (.int .i64 (orI x y)) ∧ w' = w := by
  by_cases c0 : x = 0
  · subst c0
    by_cases c1 : y = 0
    · subst c1
      go_enter Yba.func48, Yba.ntmps48
      go_wp2
      refine wp_loop_rounds 3 ?_
      rw [rounds_succ]
      go_wp2
      rw [rounds_succ]
      go_wp2
      rw [rounds_succ]
      go_wp2
      go_ret
      exact ⟨ret_int (orI_zero _).symm, rfl⟩
    · go_enter Yba.func48, Yba.ntmps48
      go_wp2
      refine wp_loop_rounds 3 ?_
      rw [rounds_succ]
      go_wp2
      rw [rounds_succ]
      go_wp2
      go_ret
      exact ⟨ret_int (orI_zero _).symm, rfl⟩
  · go_enter Yba.func48, Yba.ntmps48
    go_wp2
    refine wp_loop_rounds 3 ?_
    rw [rounds_succ]
    go_wp2
    go_ret
    exact ⟨ret_int (orI_ne y c0).symm, rfl⟩

def rankI (a b c d : Int) : Int := orI (cmpI a c) (cmpI b d)
set_option maxHeartbeats 1000000 in
theorem rank_any (a b c d : Int) (w : World) :
    Calls Yba.prog 50 #[.agg #[.int .i64 a, .int .i64 b], .agg #[.int .i64 c, .int .i64 d]] w fun e w' => e = .returned (.int .i64 (rankI a b c d)) ∧ Below w.heap.size w w' := by
  have e1 : Hid (rankI a b c d = orI (cmpI a c) (cmpI b d)) := rfl
  have f0 : Hid ((((w.alloc (.cells #[.int .i64 a, .int .i64 b] 157)).alloc (.cells #[.int .i64 c, .int .i64 d] 157)).alloc (.cells #[.int .i64 (cmpI a c), .int .i64 (cmpI b d)] 3)).drew.cell? ⟨w.heap.size + 1 + 1, 0, none⟩ = some (.int .i64 (cmpI a c))) := by unfold Hid; simp [go_sem]
  have f1 : Hid ((((w.alloc (.cells #[.int .i64 a, .int .i64 b] 157)).alloc (.cells #[.int .i64 c, .int .i64 d] 157)).alloc (.cells #[.int .i64 (cmpI a c), .int .i64 (cmpI b d)] 3)).drew.cell? ⟨w.heap.size + 1 + 1, 0 + 1, none⟩ = some (.int .i64 (cmpI b d))) := by unfold Hid; simp [go_sem]
  go_enter Yba.func50, Yba.ntmps50
  go_wp2
  go_region_held3 (fun w' => w'.cell? ⟨w.heap.size, 0, none⟩ = some (.int .i64 a) ∧ w'.cell? ⟨w.heap.size, 1, none⟩ = some (.int .i64 b) ∧ w'.cell? ⟨w.heap.size + 1, 0, none⟩ = some (.int .i64 c) ∧ w'.cell? ⟨w.heap.size + 1, 1, none⟩ = some (.int .i64 d)) (simp [go_sem, World.cell?_alloc_past])
    (first
      | (go_at_call 51; refine (compare_any _ _ _).mono ?_; rintro e w' ⟨rfl, rfl⟩)
      | (go_at_call 48; refine (or_any _ _ (cmpI a c) (cmpI b d) _ ?_ ?_).mono ?_; exact f0.out; exact f1.out; rintro e w' ⟨rfl, rfl⟩))
  go_wp2
  go_ret
  exact ⟨ret_int (by rw [e1.out]), ((((Below.refl _ _).alloc (Nat.le_refl _) _).alloc (by simp) _).alloc (by simp; omega) _).drew⟩

/-! ### a QC's cells -/
structure Qc where
  st : Int
  ep : Int
  vw : Int
  bl : List Int
  sa : Option Addr
  sn : Nat
  sc : Nat

def bytesV (l : List Int) : List Value := l.map (fun x => Value.int .u8 x)
def Qc.L (q : Qc) : List Value := .int .i64 q.st :: .int .i64 q.ep :: .int .i64 q.vw :: (bytesV q.bl ++ [.slice q.sa q.sn q.sc])

theorem bytesV_length (l : List Int) : (bytesV l).length = l.length := by simp [bytesV]
theorem Qc.len (q : Qc) (h : q.bl.length = 32) : q.L.length = 36 := by simp [Qc.L, bytesV, h]
theorem Qc.g0 (q : Qc) : q.L[0]? = some (.int .i64 q.st) := rfl
theorem Qc.g1 (q : Qc) : q.L[1]? = some (.int .i64 q.ep) := rfl
theorem Qc.g2 (q : Qc) : q.L[2]? = some (.int .i64 q.vw) := rfl
theorem Qc.g35 (q : Qc) (h : q.bl.length = 32) : q.L[35]? = some (.slice q.sa q.sn q.sc) := by
  simp [Qc.L, bytesV, h]
/-- the block's id inside a QC that lies at 'o' -/
theorem Qc.gb (q : Qc) (w : World) (b o : Nat) (h : w.rangeAt b o q.L) : w.rangeAt b (o + 3) (bytesV q.bl) := by
  intro j v hv
  have := h (3 + j) v (by
    simp only [Qc.L]
    rw [show 3 + j = j + 1 + 1 + 1 from by omega]
    simp only [List.getElem?_cons_succ]
    rw [List.getElem?_append_left (by have := (List.getElem?_eq_some_iff.1 hv).1; exact this)]
    exact hv)
  rw [show o + 3 + j = o + (3 + j) from by omega]
  exact this

theorem rangeAt_new (w : World) (l : List Value) (t : TypeId) : (w.alloc (.cells l.toArray t)).rangeAt w.heap.size 0 l := by
  intro j v hv
  simp [go_sem, hv]
theorem rangeAt_below {B : Nat} {w w' : World} (hb : Below B w w') {b o : Nat} {l : List Value} (hB : b < B) (h : w.rangeAt b o l) : w'.rangeAt b o l :=
  fun j v hv => (hb.cell (p := ⟨b, o + j, none⟩) hB).trans (h j v hv)
theorem rangeAt_part {w : World} {b o : Nat} {l m r : List Value} (h : w.rangeAt b o (l ++ (m ++ r))) (n : Nat) (hn : n = o + l.length) : w.rangeAt b n m := by
  subst hn
  intro j v hv
  have hj : j < m.length := (List.getElem?_eq_some_iff.1 hv).1
  have := h (l.length + j) v (by rw [List.getElem?_append_right (by omega)]; simp only [Nat.add_sub_cancel_left]; rw [List.getElem?_append_left hj]; exact hv)
  rw [Nat.add_assoc]
  exact this

/-- a load of a block's id (plain or guarded) -/
theorem ldm {P : Program} {ops : Array Oper} {rest : List Oper} {dst : Option Tmp} {x : Operand} {ty ty' : TypeId} {pos : String} {after : Array Edge} {g : Option (Nat × Bool)} {a : Act} {w : World} {Q : Exit → Act → World → Prop}
    (cs : List Value) (b o : Nat) (d : TypeDesc)
    (hw : Region.wanted { dst := dst, op := .load ty x, type := ty', pos := pos, after := after, guard := g } (yielded ops a.tmps) = true)
    (hx : a.eval x = .pointer (some ⟨b, o, none⟩)) (hc : w.rangeAt b o cs)
    (hu : P.underlying ty = some d) (hd : d.isRow = true) (hi : (P.info? ty).map (·.size) = some cs.length)
    (h : wpList P ops Q rest (a.put dst (.agg cs.toArray)) w) :
    wpList P ops Q ({ dst := dst, op := .load ty x, type := ty', pos := pos, after := after, guard := g } :: rest) a w :=
  BigFrame.wpList_want hw fun _ hK => wp_load_mid ty x rfl b o hx cs d hc hu hd hi (hK _ _ h)
theorem inf30 : (Yba.prog.info? 30).map (·.size) = some 32 := by kernel_rfl
theorem inf32 : (Yba.prog.info? 32).map (·.size) = some 36 := by kernel_rfl
theorem inf34 : (Yba.prog.info? 34).map (·.size) = some 114 := by kernel_rfl
theorem sz30 {cs : List Int} (hn : cs.length = 32) : (Yba.prog.info? 30).map (·.size) = some (bytesV cs).length := by rw [bytesV_length, hn, inf30]
theorem sz32 {q : Qc} (hn : q.bl.length = 32) : (Yba.prog.info? 32).map (·.size) = some q.L.length := by rw [q.len hn, inf32]
section
variable {ops : Array Oper} {rest : List Oper} {dst : Option Tmp} {x : Operand} {ty' : TypeId} {pos : String} {after : Array Edge} {g : Option (Nat × Bool)} {a : Act} {w : World} {Q : Exit → Act → World → Prop}
theorem ld30 (cs : List Int) (hn : cs.length = 32) (b o : Nat)
    (hw : Region.wanted { dst := dst, op := .load 30 x, type := ty', pos := pos, after := after, guard := g } (yielded ops a.tmps) = true)
    (hx : a.eval x = .pointer (some ⟨b, o, none⟩)) (hc : w.rangeAt b o (bytesV cs))
    (h : wpList Yba.prog ops Q rest (a.put dst (.agg (bytesV cs).toArray)) w) :
    wpList Yba.prog ops Q ({ dst := dst, op := .load 30 x, type := ty', pos := pos, after := after, guard := g } :: rest) a w :=
  ldm (bytesV cs) b o _ hw hx hc Yba.underlying30 rfl (sz30 hn) h
theorem ld32 (q : Qc) (hn : q.bl.length = 32) (b o : Nat)
    (hw : Region.wanted { dst := dst, op := .load 32 x, type := ty', pos := pos, after := after, guard := g } (yielded ops a.tmps) = true)
    (hx : a.eval x = .pointer (some ⟨b, o, none⟩)) (hc : w.rangeAt b o q.L)
    (h : wpList Yba.prog ops Q rest (a.put dst (.agg q.L.toArray)) w) :
    wpList Yba.prog ops Q ({ dst := dst, op := .load 32 x, type := ty', pos := pos, after := after, guard := g } :: rest) a w :=
  ldm q.L b o _ hw hx hc Yba.underlying32 rfl (sz32 hn) h
end

/-- '==' on two arrays of bytes. -/
theorem run_eqItems_bytes {P : Program} (w : World) (d : Nat) {e : TypeId} (he : P.underlying e = some (.int .u8)) (ha : ∀ w, (isAgg e).run P w = .ok false w) (xs ys : List Int) (hl : xs.length = ys.length) :
    ∀ (n k : Nat), k + n = xs.length → (Op.eqItems (d + 1) e 1 (bytesV xs).toArray (bytesV ys).toArray (List.range' k n)).run P w = .ok (xs.drop k == ys.drop k) w
  | 0, k, h => by
    have h1 : xs.drop k = [] := List.drop_eq_nil_of_le (by omega)
    have h2 : ys.drop k = [] := List.drop_eq_nil_of_le (by omega)
    simp [Op.eqItems, h1, h2]
  | n + 1, k, h => by
    have hx : k < xs.length := by omega
    have hy : k < ys.length := by omega
    have ex : (bytesV xs)[k]? = some (.int .u8 xs[k]) := by simp [bytesV, hx]
    have ey : (bytesV ys)[k]? = some (.int .u8 ys[k]) := by simp [bytesV, hy]
    have dx : xs.drop k = xs[k] :: xs.drop (k + 1) := by simp
    have dy : ys.drop k = ys[k] :: ys.drop (k + 1) := by simp
    have ih := run_eqItems_bytes w d he ha xs ys hl n (k + 1) (by omega)
    rw [dx, dy, List.range'_succ]
    simp only [Op.eqItems, Sem.run_bind, part, ha, Result.andThen_ok, Nat.mul_one, List.getElem?_toArray, ex, ey, Bool.false_eq_true, if_false, Sem.run_pure, run_equalIn_int w d e .u8 .u8 _ _ he, Sem.run_ite]
    rw [ih]
    by_cases h : xs[k] = ys[k]
    · rw [h]; simp only [beq_self_eq_true, Bool.not_true, Bool.false_eq_true, if_false]; rw [List.cons_beq_cons]; simp
    · have h' : (xs[k] == ys[k]) = false := by simpa using h
      simp only [h', Bool.not_false, if_true]; rw [List.cons_beq_cons, h']; simp

theorem cells5 : Yba.prog.cellsOf 5 = 1 := by kernel_rfl
theorem eq30 (xs ys : List Int) (hx : xs.length = 32) (hy : ys.length = 32) (w : World) : (binOp .eql 30 (.agg (bytesV xs).toArray) (.agg (bytesV ys).toArray)).run Yba.prog w = .ok (.bool (xs == ys)) w := by
  have h := run_eqItems_bytes (P := Yba.prog) w 9998 (e := 5) Yba.underlying5 Yba.isAgg5 xs ys (by omega) 32 0 (by omega)
  simp only [List.drop_zero] at h
  have h2 := run_equalIn_array (P := Yba.prog) (i := Yba.t5) w 9999 (bytesV xs).toArray (bytesV ys).toArray Yba.underlying30 (by kernel_rfl)
  rw [cells5, List.range_eq_range', h] at h2
  simp only [binOp, Op.equal, Op.maxDepth, Sem.run_bind, h2, Result.andThen_ok, Sem.run_pure]

end Go.Proofs.Ybulkcsck
