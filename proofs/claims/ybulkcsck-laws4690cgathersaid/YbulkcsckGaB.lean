/-
  OWN TEXT. LawS4690CGather: the vote's statement, by the law's own road and by the replica's.
-/
import Derived.Test.YbulkcsckGaA
import Derived.Lib.SmallJoins
import Derived.Deep.Cut
namespace Go.Proofs.Ybulkcsck.Ga
open Go.RowKit

theorem wpList_append_any {P : Program} {w w' : World} {ops : Array Oper} {rest : List Oper} {o : Oper} {a : Act} {Q : Exit → Act → World → Prop} (hgd : o.guard = none) (s x : Operand) (t t' ty : TypeId)
    (ho : o.op = .call { callee := .builtin .append, args := #[s, x], argTypes := #[t, t'] }) (hty : o.type = ty) {v y v' : Value} (hs : a.eval s = v) (hx : a.eval x = y) (hr : (Builtin.append_ #[t, t'] ty #[v, y]).run P w = .ok v' w')
    (h : wpList P ops Q rest (a.put o.dst v') w') : wpList P ops Q (o :: rest) a w := by
  subst hty
  refine wpList_plain hgd fun K hK => ?_
  unfold Oper.wp execOp
  simp only [ho, resolve, invoke, builtin, Sem.run_bind, Sem.run_pure, Result.andThen_ok, List.map_toArray, List.map_cons, List.map_nil, hs, hx, hr]
  exact hK _ _ h

theorem owns_shape {w : World} {base : Nat} {e : TypeId} {sz n : Nat} {v : Value} {xs : List Value} (h : w.ownsRow base e sz v n xs) : ∃ p c, v = .slice p n c := by
  rcases h.2 with ⟨rfl, rfl⟩ | ⟨g, cap, cur, rfl, _⟩
  · exact ⟨_, _, rfl⟩
  · exact ⟨_, _, rfl⟩
theorem owns_block {w : World} {base : Nat} {e : TypeId} {sz n : Nat} {v : Value} {xs : List Value} (h : w.ownsRow base e sz v n xs) : ∀ k, v.ownBlock = some k → base ≤ k := by
  rcases h.2 with ⟨rfl, rfl⟩ | ⟨g, cap, cur, rfl, hb, _⟩
  · intro k e; cases e
  · intro k e; cases e; exact hb
theorem owns_below {w w' : World} {base : Nat} {e : TypeId} {sz n : Nat} {v : Value} {xs : List Value} (h : w.ownsRow base e sz v n xs) (hb : Below w.heap.size w w') : w'.ownsRow base e sz v n xs := by
  refine ⟨h.1, ?_⟩
  rcases h.2 with h | ⟨g, cap, cur, q1, q2, q3, q4⟩
  · exact .inl h
  · exact .inr ⟨g, cap, cur, q1, q2, (hb.block g (Array.getElem?_eq_some_iff.1 q3).1).trans q3, q4⟩

theorem info5 : ∃ i, Yba.prog.info? 5 = some i ∧ i.zero = some (.int .u8 0) ∧ i.size = 1 ∧ i.bytes = 1 := by
  have h : (Yba.prog.info? 5).map (fun i => (i.size, i.bytes)) = some (1, 1) := by kernel_rfl
  have h2 : (Yba.prog.info? 5).bind (·.zero) = some (.int .u8 0) := by kernel_rfl
  obtain ⟨i, hi, hb⟩ := Option.map_eq_some_iff.1 h
  rw [hi] at h2
  simp only [Prod.mk.injEq] at hb
  exact ⟨i, hi, h2, hb.1, hb.2⟩

theorem add_at (b o j : Nat) : (⟨b, o, none⟩ : Addr).add j = ⟨b, o + j, none⟩ := by unfold Addr.add; split <;> simp_all
theorem new_cell (w : World) (L : List Value) (t : TypeId) (b : Nat) (hb : b = w.heap.size) {j : Nat} {u : Value} (h : L[j]? = some u) : (w.alloc (.cells L.toArray t)).cell? ((⟨b, 0, none⟩ : Addr).add j) = some u := by
  subst hb
  rw [add_at, Nat.zero_add]
  simp only [World.cell?, heap_alloc_new]
  simpa using h

def u8s (l : List Int) : List Value := l.map (Value.int .u8)
def be8 (x : Int) : List Int := [x / 72057594037927936, x / 281474976710656 % 256, x / 1099511627776 % 256, x / 4294967296 % 256, x / 16777216 % 256, x / 65536 % 256, x / 256 % 256, x % 256]

/-- bytes appended to a row of the call's own -/
theorem app5 {w : World} {base : Nat} {v : Value} {n : Nat} {xs : List Value} (h : w.ownsRow base 5 1 v n xs) (hB : base ≤ w.heap.size) (hn : n ≤ 1000) (ty : TypeId) (ad : Addr) (m c : Nat) (news : List Int) (hm : news.length = m) (hm2 : m ≤ 1000) (hc : ∀ j u, (u8s news)[j]? = some u → w.cell? (ad.add j) = some u) :
    ∃ p c' w', (Builtin.append_ #[37, 37] ty #[v, .slice (some ad) m c]).run Yba.prog w = .ok (.slice p (n + m) c') w' ∧ w'.ownsRow base 5 1 (.slice p (n + m) c') (n + m) (xs ++ u8s news) ∧ Below base w w' := by
  obtain ⟨i, hi, hz, hsz, hby⟩ := info5
  obtain ⟨v', w', hr, ho, hg, _⟩ := run_append_own (P := Yba.prog) w base 37 ty 5 i _ 1 1 Yba.underlying37 hi hz hsz hby rfl (by decide) v n xs h ad m c (u8s news) (by simp [u8s, hm]) hc (fun u hu => by obtain ⟨x, _, rfl⟩ := List.mem_map.1 hu; rfl) (by unfold maxLen; omega) (by omega) hB
  obtain ⟨p, c', rfl⟩ := owns_shape ho
  exact ⟨p, c', w', hr, ho, (Below.refl _ w).grown hg hB (owns_block h)⟩

/-- a new row of the call's own comes back -/
def OwnP (base : Nat) (w : World) (n : Nat) (xs : List Value) (e : Ending) (w' : World) : Prop := ∃ v', e = .returned v' ∧ w'.ownsRow base 5 1 v' n xs ∧ Below base w w'

set_option maxRecDepth 100000 in
set_option maxHeartbeats 800000 in
theorem app64 (base : Nat) (v : Value) (n : Nat) (xs : List Value) (x : Int) (w : World) (h : w.ownsRow base 5 1 v n xs) (hB : base ≤ w.heap.size) (hn : n ≤ 1000) (h0 : 0 ≤ x) (h1 : x < 18446744073709551616) :
    Calls Yba.prog 32 #[.agg #[], v, .int .u64 x] w (OwnP base w (n + 8) (xs ++ u8s (be8 x))) := by
  obtain ⟨p, c, rfl⟩ := owns_shape h
  have b2 : Below w.heap.size w ((w.alloc (.cells #[] 136)).alloc (.cells (u8s (be8 x)).toArray 5)) := ((Below.refl _ w).alloc (Nat.le_refl _) _).alloc (by simp) _
  obtain ⟨p', c', w', hap, ho, hb⟩ := app5 (owns_below h b2) (by simp; omega) hn 37 ⟨w.heap.size + 1, 0, none⟩ 8 8 (be8 x) rfl (by decide) (fun j u hj => new_cell _ _ _ _ (by simp) hj)
  have HAP : Hid ((Builtin.append_ #[37, 37] 37 #[.slice p n c, .slice (some ⟨w.heap.size + 1, 0, none⟩) 8 8]).run Yba.prog ((w.alloc (.cells #[] 136)).alloc (.cells #[.int .u8 (x / 72057594037927936), .int .u8 (x / 281474976710656 % 256), .int .u8 (x / 1099511627776 % 256), .int .u8 (x / 4294967296 % 256), .int .u8 (x / 16777216 % 256), .int .u8 (x / 65536 % 256), .int .u8 (x / 256 % 256), .int .u8 (x % 256)] 5)) = .ok (.slice p' (n + 8) c') w') := hap
  have fin : Hid (OwnP base w (n + 8) (xs ++ u8s (be8 x)) (.returned (.slice p' (n + 8) c')) w') := ⟨_, rfl, ho, (b2.mono hB).trans hb⟩
  clear hap ho hb b2 h
  generalize n + 8 = N at HAP fin ⊢
  go_enter Yba.func32, Yba.ntmps32
  go_wp2_with (at_builtin; (with_reducible refine wpList_append_any ?_ (.tmp 7) (.tmp 31) 37 37 37 ?_ ?_ (v := .slice p n c) (y := .slice (some ⟨w.heap.size + 1, 0, none⟩) 8 8) ?_ ?_ HAP.out ?_); (first | exact rfl | skip); (first | exact rfl | skip); (first | exact rfl | skip); (first | exact rfl | skip); (first | exact rfl | skip))
  go_ret
  exact fin.out

def nameL : List Int := [113, 117, 97, 100, 114, 105, 108, 108, 101, 32, 118, 111, 116, 101]
/-- what a vote states -/
def stL (s e v : Int) (bid : List Int) : List Int := nameL ++ [0] ++ be8 (s % 18446744073709551616) ++ be8 (e % 18446744073709551616) ++ be8 (v % 18446744073709551616) ++ bid

/-- the first append of the law's own road -/
theorem appName (w : World) (bid : List Int) : ∃ p c w', (Builtin.append_ #[37, 37] 37 #[.slice (some ⟨w.heap.size + 1, 0, none⟩) 14 14, .slice (some ⟨w.heap.size + 2, 0, none⟩) 1 1]).run Yba.prog (((w.alloc (.cells (u8s bid).toArray 30)).alloc (.cells (u8s nameL).toArray 5 (14, 15))).alloc (.cells #[.int .u8 0] 5)) = .ok (.slice p 15 c) w' ∧
    w'.ownsRow (w.heap.size + 1) 5 1 (.slice p 15 c) 15 (u8s (nameL ++ [0])) ∧ Below (w.heap.size + 1) (w.alloc (.cells (u8s bid).toArray 30)) w' := by
  obtain ⟨i, hi, hz, hsz, hby⟩ := info5
  generalize hA : w.alloc (.cells (u8s bid).toArray 30) = A
  have sA : A.heap.size = w.heap.size + 1 := by rw [← hA]; simp
  have bA : Below (w.heap.size + 1) A ((A.alloc (.cells (u8s nameL).toArray 5 (14, 15))).alloc (.cells #[.int .u8 0] 5)) := ((Below.refl _ A).alloc (by omega) _).alloc (by simp; omega) _
  obtain ⟨v', w', hr, ho, hg⟩ := run_append_arg_grows (P := Yba.prog) ((A.alloc (.cells (u8s nameL).toArray 5 (14, 15))).alloc (.cells #[.int .u8 0] 5)) 37 37 5 i _ 1 1 Yba.underlying37 hi hz hsz hby rfl (by decide) ⟨w.heap.size + 1, 0, none⟩ 14 14 (u8s nameL) rfl
    (fun j u hj => by
      have hb : Below (w.heap.size + 2) (A.alloc (.cells (u8s nameL).toArray 5 (14, 15))) ((A.alloc (.cells (u8s nameL).toArray 5 (14, 15))).alloc (.cells #[.int .u8 0] 5)) := (Below.refl _ _).alloc (by simp; omega) _
      rw [add_at, Nat.zero_add, hb.cell (p := ⟨w.heap.size + 1, j, none⟩) (by simp), ← sA]
      simp only [World.cell?, heap_alloc_new]
      simpa using hj)
    ⟨w.heap.size + 2, 0, none⟩ 1 1 (u8s [0]) rfl (fun j u hj => new_cell _ [Value.int .u8 0] 5 _ (by simp [sA]) hj) (by decide) (by decide) (by decide)
  obtain ⟨p, c, rfl⟩ := owns_shape ho
  refine ⟨p, c, w', hr, ?_, bA.grown hg (by have := bA.size; omega) (fun k e => by cases e)⟩
  have e : u8s nameL ++ u8s [0] = u8s (nameL ++ [0]) := by simp [u8s]
  rw [e] at ho
  refine ⟨ho.1, ho.2.elim .inl (fun ⟨g, cap, cur, hv, hb, r⟩ => .inr ⟨g, cap, cur, hv, ?_, r⟩)⟩
  have := bA.size
  omega

@[go_sem] theorem wrap64u (x : Int) : IntKind.u64.wrap x = x % 18446744073709551616 := by
  simp [IntKind.wrap, IntKind.signed, IntKind.bits]

set_option maxRecDepth 100000 in
set_option maxHeartbeats 1600000 in
/-- the law's own statement -/
theorem stmt15 (s e v : Int) (bid : List Int) (hl : bid.length = 32) (w : World) :
    Calls Yba.prog 15 #[.int .i64 s, .int .i64 e, .int .i64 v, .agg (u8s bid).toArray] w (OwnP w.heap.size w 71 (u8s (stL s e v bid))) := by
  obtain ⟨p1, c1, w1, hap, ho1, hb1⟩ := appName w bid
  have kc : (convert 37 37 (.slice (some ⟨w.heap.size + 1, 0, none⟩) 14 14)).run Yba.prog ((w.alloc (.cells (u8s bid).toArray 30)).alloc (.cells #[.int .u8 113, .int .u8 117, .int .u8 97, .int .u8 100, .int .u8 114, .int .u8 105, .int .u8 108, .int .u8 108, .int .u8 101, .int .u8 32, .int .u8 118, .int .u8 111, .int .u8 116, .int .u8 101] 5)) = .ok (.slice (some ⟨w.heap.size + 1, 0, none⟩) 14 14) ((w.alloc (.cells (u8s bid).toArray 30)).alloc (.cells #[.int .u8 113, .int .u8 117, .int .u8 97, .int .u8 100, .int .u8 114, .int .u8 105, .int .u8 108, .int .u8 108, .int .u8 101, .int .u8 32, .int .u8 118, .int .u8 111, .int .u8 116, .int .u8 101] 5 (14, 15))) :=
    Go.Joins.run_convert_bytes_const_at (P := Yba.prog) (w.alloc (.cells (u8s bid).toArray 30)) 37 5 (u8s nameL).toArray 14 14 (w.heap.size + 1) (by simp) Yba.underlying37 Yba.underlying5
  have HAP : Hid ((Builtin.append_ #[37, 37] 37 #[.slice (some ⟨w.heap.size + 1, 0, none⟩) 14 14, .slice (some ⟨w.heap.size + 1 + 1, 0, none⟩) 1 1]).run Yba.prog (((w.alloc (.cells (u8s bid).toArray 30)).alloc (.cells #[.int .u8 113, .int .u8 117, .int .u8 97, .int .u8 100, .int .u8 114, .int .u8 105, .int .u8 108, .int .u8 108, .int .u8 101, .int .u8 32, .int .u8 118, .int .u8 111, .int .u8 116, .int .u8 101] 5 (14, 15))).alloc (.cells #[.int .u8 0] 5)) = .ok (.slice p1 15 c1) w1) := hap
  have O1 : Hid (w1.ownsRow (w.heap.size + 1) 5 1 (.slice p1 15 c1) 15 (u8s (nameL ++ [0]))) := ho1
  have A1 : Hid (∀ j u, (u8s bid)[j]? = some u → w1.cell? ⟨w.heap.size, j, none⟩ = some u) := fun j u hj => by
    rw [hb1.cell (p := ⟨w.heap.size, j, none⟩) (by simp)]
    have := new_cell w (u8s bid) 30 w.heap.size rfl hj
    rwa [add_at, Nat.zero_add] at this
  have B1 : Hid (Below w.heap.size w w1 ∧ w.heap.size + 1 ≤ w1.heap.size) := ⟨((Below.refl _ w).alloc (Nat.le_refl _) _).trans (hb1.mono (by omega)), by have := hb1.size; simpa using this⟩
  clear hap ho1 hb1
  go_enter Yba.func15, Yba.ntmps15
  go_upto_region 3 with (at_builtin; (with_reducible refine wpList_append_any ?_ (.tmp 12) (.tmp 13) 37 37 37 ?_ ?_ (v := .slice (some ⟨w.heap.size + 1, 0, none⟩) 14 14) (y := .slice (some ⟨w.heap.size + 1 + 1, 0, none⟩) 1 1) ?_ ?_ HAP.out ?_); (first | exact rfl | skip); (first | exact rfl | skip); (first | exact rfl | skip); (first | exact rfl | skip); (first | exact rfl | skip))
  clear HAP kc
  go_upto_region 4 with (go_at_call 32; refine (app64 (w.heap.size + 1) _ 15 (u8s (nameL ++ [0])) (s % 18446744073709551616) w1 O1.out B1.out.2 (by decide) (by omega) (by omega)).mono ?_; rintro x w2 ⟨v2, rfl, ho, hb⟩; obtain ⟨p2, c2, rfl⟩ := owns_shape ho; have O2 : Hid (w2.ownsRow (w.heap.size + 1) 5 1 (.slice p2 23 c2) 23 ((u8s (nameL ++ [0])) ++ u8s (be8 (s % 18446744073709551616)))) := ho; have A2 : Hid (∀ j u, (u8s bid)[j]? = some u → w2.cell? ⟨w.heap.size, j, none⟩ = some u) := fun j u hj => (hb.cell (p := ⟨w.heap.size, j, none⟩) (by simp)).trans (A1.out j u hj); have B2 : Hid (Below w.heap.size w w2 ∧ w.heap.size + 1 ≤ w2.heap.size) := ⟨B1.out.1.trans (hb.mono (by omega)), Nat.le_trans B1.out.2 hb.size⟩; clear ho hb)
  go_upto_region 5 with (go_at_call 32; refine (app64 (w.heap.size + 1) _ 23 ((u8s (nameL ++ [0])) ++ u8s (be8 (s % 18446744073709551616))) (e % 18446744073709551616) w2 O2.out B2.out.2 (by decide) (by omega) (by omega)).mono ?_; rintro x w3 ⟨v3, rfl, ho, hb⟩; obtain ⟨p3, c3, rfl⟩ := owns_shape ho; have O3 : Hid (w3.ownsRow (w.heap.size + 1) 5 1 (.slice p3 31 c3) 31 (((u8s (nameL ++ [0])) ++ u8s (be8 (s % 18446744073709551616))) ++ u8s (be8 (e % 18446744073709551616)))) := ho; have A3 : Hid (∀ j u, (u8s bid)[j]? = some u → w3.cell? ⟨w.heap.size, j, none⟩ = some u) := fun j u hj => (hb.cell (p := ⟨w.heap.size, j, none⟩) (by simp)).trans (A2.out j u hj); have B3 : Hid (Below w.heap.size w w3 ∧ w.heap.size + 1 ≤ w3.heap.size) := ⟨B2.out.1.trans (hb.mono (by omega)), Nat.le_trans B2.out.2 hb.size⟩; clear ho hb)
  go_upto_region 6 with (go_at_call 32; refine (app64 (w.heap.size + 1) _ 31 (((u8s (nameL ++ [0])) ++ u8s (be8 (s % 18446744073709551616))) ++ u8s (be8 (e % 18446744073709551616))) (v % 18446744073709551616) w3 O3.out B3.out.2 (by decide) (by omega) (by omega)).mono ?_; rintro x w4 ⟨v4, rfl, ho, hb⟩; obtain ⟨p4, c4, rfl⟩ := owns_shape ho; have O4 : Hid (w4.ownsRow (w.heap.size + 1) 5 1 (.slice p4 39 c4) 39 ((((u8s (nameL ++ [0])) ++ u8s (be8 (s % 18446744073709551616))) ++ u8s (be8 (e % 18446744073709551616))) ++ u8s (be8 (v % 18446744073709551616)))) := ho; have A4 : Hid (∀ j u, (u8s bid)[j]? = some u → w4.cell? ⟨w.heap.size, j, none⟩ = some u) := fun j u hj => (hb.cell (p := ⟨w.heap.size, j, none⟩) (by simp)).trans (A3.out j u hj); have B4 : Hid (Below w.heap.size w w4 ∧ w.heap.size + 1 ≤ w4.heap.size) := ⟨B3.out.1.trans (hb.mono (by omega)), Nat.le_trans B3.out.2 hb.size⟩; clear ho hb)
  obtain ⟨p5, c5, w5, hap, ho, hb⟩ := app5 O4.out B4.out.2 (by decide) 37 ⟨w.heap.size, 0, none⟩ 32 32 bid hl (by decide) (fun j u hj => by rw [add_at, Nat.zero_add]; exact A4.out j u hj)
  have HAP : Hid ((Builtin.append_ #[37, 37] 37 #[.slice p4 39 c4, .slice (some ⟨w.heap.size, 0, none⟩) 32 32]).run Yba.prog w4 = .ok (.slice p5 71 c5) w5) := hap
  have fin : Hid (OwnP w.heap.size w 71 (u8s (stL s e v bid)) (.returned (.slice p5 71 c5)) w5) := by
    refine ⟨_, rfl, ?_, B4.out.1.trans (hb.mono (by omega))⟩
    have e1 : ((((u8s (nameL ++ [0])) ++ u8s (be8 (s % 18446744073709551616))) ++ u8s (be8 (e % 18446744073709551616))) ++ u8s (be8 (v % 18446744073709551616))) ++ u8s bid = u8s (stL s e v bid) := by simp [stL, u8s]
    rw [e1] at ho
    exact ⟨ho.1, ho.2.elim .inl (fun ⟨g, cap, cur, hv, hb, r⟩ => .inr ⟨g, cap, cur, hv, by omega, r⟩)⟩
  clear hap ho hb
  go_wp2_with (at_builtin; (with_reducible refine wpList_append_any ?_ (.tmp 30) (.tmp 31) 37 37 37 ?_ ?_ (v := .slice p4 39 c4) (y := .slice (some ⟨w.heap.size, 0, none⟩) 32 32) ?_ ?_ HAP.out ?_); (first | exact rfl | skip); (first | exact rfl | skip); (first | exact rfl | skip); (first | exact rfl | skip); (first | exact rfl | skip))
  go_ret
  exact fin.out
end Go.Proofs.Ybulkcsck.Ga
