/-
  OWN TEXT. LawS4690CGather: the replica's cells; the map of checked certificates.
-/
import Derived.Test.YbulkcsckGaH
import Derived.MapKept
import Derived.WideMake
import Derived.Laws.BytesArg
namespace Go.Proofs.Ybulkcsck.Ga
open Go.RowKit

/-- what stands fast about the replica -/
structure Cf where
  rb : Nat
  kb : Nat
  vb : Nat → Nat
  hb : Nat → Nat
  gb : Nat → Nat
  n : Nat
  f : Nat
  id : Nat
  vw : Int
  wi : Int
  lv : Bool
  pb : Option Addr
  pay : Value

/-- the cells of the replica that the road comes to -/
structure RC (c : Cf) (inV mV snV : Value) (C : Array Value) : Prop where
  id : C[0]? = some (.int .i64 c.id)
  n : C[1]? = some (.int .i64 c.n)
  f : C[2]? = some (.int .i64 c.f)
  k : C[3]? = some (.iface 96 (.pointer (some ⟨c.kb, 0, none⟩)))
  pay : C[4]? = some c.pay
  vw : C[10]? = some (.int .i64 c.vw)
  wi : C[11]? = some (.int .i64 c.wi)
  lv : C[12]? = some (.bool c.lv)
  pb : C[96]? = some (.pointer c.pb)
  v1 : C[98]? = some (.pointer (some ⟨c.vb 1, 0, none⟩))
  v2 : C[99]? = some (.pointer (some ⟨c.vb 2, 0, none⟩))
  v3 : C[100]? = some (.pointer (some ⟨c.vb 3, 0, none⟩))
  inb : C[102]? = some inV
  m : C[108]? = some mV
  sn : C[109]? = some snV
theorem set_ne {C : Array Value} {i j : Nat} {u v : Value} (h : C[i]? = some u) (hne : j ≠ i) : (C.setIfInBounds j v)[i]? = some u := by rw [Array.getElem?_setIfInBounds_ne hne]; exact h
theorem set_eq {C : Array Value} {i : Nat} {u v : Value} (h : C[i]? = some u) : (C.setIfInBounds i v)[i]? = some v := by
  have := (Array.getElem?_eq_some_iff.1 h).1
  simp [this]
theorem RC.setM {c : Cf} {a b d : Value} {C : Array Value} (h : RC c a b d C) (v : Value) : RC c a v d (C.setIfInBounds 108 v) :=
  ⟨set_ne h.id (by decide), set_ne h.n (by decide), set_ne h.f (by decide), set_ne h.k (by decide), set_ne h.pay (by decide), set_ne h.vw (by decide), set_ne h.wi (by decide), set_ne h.lv (by decide), set_ne h.pb (by decide), set_ne h.v1 (by decide), set_ne h.v2 (by decide), set_ne h.v3 (by decide), set_ne h.inb (by decide), set_eq h.m, set_ne h.sn (by decide)⟩
theorem RC.setIn {c : Cf} {a b d : Value} {C : Array Value} (h : RC c a b d C) (v : Value) : RC c v b d (C.setIfInBounds 102 v) :=
  ⟨set_ne h.id (by decide), set_ne h.n (by decide), set_ne h.f (by decide), set_ne h.k (by decide), set_ne h.pay (by decide), set_ne h.vw (by decide), set_ne h.wi (by decide), set_ne h.lv (by decide), set_ne h.pb (by decide), set_ne h.v1 (by decide), set_ne h.v2 (by decide), set_ne h.v3 (by decide), set_eq h.inb, set_ne h.m (by decide), set_ne h.sn (by decide)⟩
theorem RC.setSn {c : Cf} {a b d : Value} {C : Array Value} (h : RC c a b d C) (v : Value) : RC c a b v (C.setIfInBounds 109 v) :=
  ⟨set_ne h.id (by decide), set_ne h.n (by decide), set_ne h.f (by decide), set_ne h.k (by decide), set_ne h.pay (by decide), set_ne h.vw (by decide), set_ne h.wi (by decide), set_ne h.lv (by decide), set_ne h.pb (by decide), set_ne h.v1 (by decide), set_ne h.v2 (by decide), set_ne h.v3 (by decide), set_ne h.inb (by decide), set_ne h.m (by decide), set_eq h.sn⟩

/-- the map of checked certificates: its keys -/
def Mp (ρ : Nat → Nat) (w : World) (mV : Value) (ks : List ByteArray) : Prop :=
  (mV = .map none ∧ ks = []) ∨ ∃ mb es clk, mV = .map (some mb) ∧ ρ mb = 17 ∧ w.heap[mb]? = some (.map es clk) ∧ es.toList.map (·.key) = ks.map Value.string
theorem Mp.chg {ρ ρ' : Nat → Nat} {R : Nat → Prop} {w w' : World} {mV : Value} {ks : List ByteArray} (h : Mp ρ w mV ks) (k : Chg ρ ρ' R w w') (hr : ¬ R 17) : Mp ρ' w' mV ks := by
  rcases h with h | ⟨mb, es, clk, h1, h2, h3, h4⟩
  · exact .inl h
  · have hlt := (Array.getElem?_eq_some_iff.1 h3).1
    exact .inr ⟨mb, es, clk, h1, (k.ext mb hlt).trans h2, (k.block mb hlt (by rw [h2]; exact hr)).trans h3, h4⟩
theorem findNow_absent {s : ByteArray} : ∀ (l : List MapEntry) (i : Nat) (ks : List ByteArray), l.map (·.key) = ks.map Value.string → s ∉ ks → Instr.findNow .string (.string s) l i = some none
  | [], _, _, _, _ => rfl
  | e :: l, i, [], h, _ => by simp at h
  | e :: l, i, k :: ks, h, hs => by
    simp only [List.map_cons, List.cons.injEq] at h
    have hne : ¬ s = k := fun q => hs (by rw [q]; exact List.mem_cons_self)
    have hs' : s ∉ ks := fun q => hs (List.mem_cons_of_mem _ q)
    obtain ⟨r, hr, hiff⟩ := MapKept.sameNow_of_keys (d := .string) (a := .string s) (b := .string k) trivial trivial
    have : r = false := by
      cases r
      · rfl
      · exact absurd (by have := hiff.1 rfl; cases this; rfl) hne
    unfold Instr.findNow
    rw [h.1, hr, this]
    exact findNow_absent l (i + 1) ks h.2 hs'

/-- the laws of a map whose keys don't hold s -/
theorem map_lookup {w : World} {mb : Nat} {es : Array MapEntry} {clk : Nat} {ks : List ByteArray} {s : ByteArray} (hb : w.heap[mb]? = some (.map es clk)) (hk : es.toList.map (·.key) = ks.map Value.string) (hs : s ∉ ks) :
    (Instr.lookup 64 (.map (some mb)) (.string s) true).run Yba.prog w = .ok (.tuple #[.slice none 0 0, .bool false]) w := by
  have hc : (Instr.checkKey es.isEmpty 10000 9 (.string s)).run Yba.prog w = .ok () w := MapKept.run_checkKey (d := .string) (k := .string s) Yba.underlying9 trivial _ 9999
  simp [Instr.lookup, run_underlying Yba.underlying64, MapKept.run_getObj_map hb, hc, MapKept.run_findKey Yba.underlying9 (findNow_absent es.toList 0 ks hk hs)]
theorem map_update {w : World} {mb : Nat} {es : Array MapEntry} {clk : Nat} {ks : List ByteArray} {s : ByteArray} {val : Value} (hb : w.heap[mb]? = some (.map es clk)) (hk : es.toList.map (·.key) = ks.map Value.string) (hs : s ∉ ks) :
    (Instr.mapUpdate 64 (.map (some mb)) (.string s) val).run Yba.prog w = .ok () { w with heap := w.heap.setIfInBounds mb (.map (es.push { key := .string s, val := val, born := clk }) (clk + 1)) } := by
  have hc : (Instr.checkKey false 10000 9 (.string s)).run Yba.prog w = .ok () w := MapKept.run_checkKey (d := .string) (k := .string s) Yba.underlying9 trivial _ 9999
  simp [Instr.mapUpdate, run_underlying Yba.underlying64, MapKept.run_getObj_map hb, hc, MapKept.run_findKey Yba.underlying9 (findNow_absent es.toList 0 ks hk hs), MapKept.run_setObj_map _ hb]
theorem map_set_chg {ρ : Nat → Nat} {w : World} {mb : Nat} (h : ρ mb = 17) (o : Obj) : Chg ρ ρ (· = 17) w { w with heap := w.heap.setIfInBounds mb o } :=
  ⟨rfl, rfl, rfl, by simp, fun _ _ => rfl, fun k hk hr => Array.getElem?_setIfInBounds_ne (fun e => hr (by rw [← e]; exact h))⟩
theorem mp_push {ρ : Nat → Nat} {w : World} {mb : Nat} {es : Array MapEntry} {clk : Nat} {ks : List ByteArray} (s : ByteArray) (val : Value) (hr : ρ mb = 17) (hb : w.heap[mb]? = some (.map es clk)) (hk : es.toList.map (·.key) = ks.map Value.string) :
    Mp ρ { w with heap := w.heap.setIfInBounds mb (.map (es.push { key := .string s, val := val, born := clk }) (clk + 1)) } (.map (some mb)) (ks ++ [s]) := by
  refine .inr ⟨mb, es.push { key := .string s, val := val, born := clk }, clk + 1, rfl, hr, ?_, by simp [hk]⟩
  have := (Array.getElem?_eq_some_iff.1 hb).1
  simp [this]

/-- a statement's bytes as a string -/
theorem conv9 {w : World} {g c : Nat} {l : List Int} (hl : l.length = 71) (h : ∀ j u, (u8s l)[j]? = some u → w.cell? ⟨g, j, none⟩ = some u) : (convert 37 9 (.slice (some ⟨g, 0, none⟩) 71 c)).run Yba.prog w = .ok (.string (strOfNums l)) w :=
  run_convert_bytes_arg w 37 5 Yba.underlying37 Yba.underlying5 g 0 71 c l hl (fun i hi => by
    rw [Nat.zero_add]
    refine h i _ ?_
    rw [u8s, List.getElem?_map, List.getElem?_eq_getElem (by omega)]
    simp [List.getD, List.getElem?_eq_getElem (show i < l.length by omega)]) 9 Yba.underlying9

@[go_sem] theorem eql64 (r : Option Nat) (w : World) : (binOp .eql 64 (.map r) (.map none)).run Yba.prog w = .ok (.bool r.isNone) w := by
  have h : ∀ d : Nat, (Op.equalIn (d + 1) 64 (.map r) (.map none)).run Yba.prog w = .ok r.isNone w := fun d => by cases r <;> simp [Op.equalIn, run_underlying Yba.underlying64]
  simp only [binOp]
  simp [Op.equal, Op.maxDepth, h 9999]

theorem y_conv {P : Program} {ops : Array Oper} {S : World → Prop} {o : Oper} {a : Act} {x : Operand} {t t' : TypeId} {v : Value} (u : Value) (hw : Region.wanted o (yielded ops a.tmps) = true) (ho : o.op = .convert t t' x) (hx : a.eval x = u)
    (hr : ∀ w, S w → (convert t t' u).run P w = .ok v w) : YieldsIf P ops S o v a :=
  Rt.y_of hw fun w h => by
    unfold execOp
    simp only [ho, hx, hr w h, Sem.run_bind, Sem.run_pure, Result.andThen_ok]
theorem wp_mapUpdate {P : Program} {Q : Exit → Act → World → Prop} {o : Oper} {a : Act} {x y z : Operand} {t : TypeId} {w w' : World} {K : Act → World → Prop} {m k v : Value} (ho : o.op = .mapUpdate t x y z) (hx : a.eval x = m) (hy : a.eval y = k) (hz : a.eval z = v)
    (hr : (Instr.mapUpdate t m k v).run P w = .ok () w') (h : K (a.put o.dst undef) w') : o.wp P a w K Q := by
  unfold Oper.wp execOp
  simp only [ho, hx, hy, hz, hr, Sem.run_bind, Sem.run_pure, Result.andThen_ok]
  exact h
theorem cell_setmap {w : World} {mb : Nat} {es : Array MapEntry} {clk : Nat} {o : Obj} (hb : w.heap[mb]? = some (.map es clk)) {a : Addr} {v : Value} (h : w.cell? a = some v) (k : Nat) : World.cell? { (w.drewN k) with heap := w.heap.setIfInBounds mb o } a = some v := by
  have hne : mb ≠ a.block := by
    intro e
    unfold World.cell? at h
    rw [← e, hb] at h
    cases h
  unfold World.cell? at h ⊢
  simp only [Array.getElem?_setIfInBounds_ne hne]
  exact h

set_option maxRecDepth 100000 in
set_option maxHeartbeats 800000 in
/-- what remember does to a map that is there -/
theorem remember_some (rb mb g c : Nat) (es : Array MapEntry) (clk : Nat) (ks : List ByteArray) (l : List Int) (p : Option Addr) (n q : Nat) (w : World) (h0 : w.cell? ⟨rb, 108, none⟩ = some (.map (some mb))) (hb : w.heap[mb]? = some (.map es clk)) (hk : es.toList.map (·.key) = ks.map Value.string)
    (hs : strOfNums l ∉ ks) (hz : es.size ≤ 10) (hl : l.length = 71) (hg : ∀ j u, (u8s l)[j]? = some u → w.cell? ⟨g, j, none⟩ = some u) :
    Calls Yba.prog 29 #[.pointer (some ⟨rb, 108, none⟩), .slice (some ⟨g, 0, none⟩) 71 c, .slice p n q] w fun e w' => e = .returned (.tuple #[]) ∧ ∃ k, w' = { (w.drewN k) with heap := w.heap.setIfInBounds mb (.map (es.push { key := .string (strOfNums l), val := .slice p n q, born := clk }) (clk + 1)) } := by
  have kc : ∀ k, (convert 37 9 (.slice (some ⟨g, 0, none⟩) 71 c)).run Yba.prog (w.drewN k) = .ok (.string (strOfNums l)) (w.drewN k) := fun k => conv9 hl (fun j u hj => hg j u hj)
  have kl : ∀ k, (Instr.lookup 64 (.map (some mb)) (.string (strOfNums l)) true).run Yba.prog (w.drewN k) = .ok (.tuple #[.slice none 0 0, .bool false]) (w.drewN k) := fun k => map_lookup (w := w.drewN k) hb hk hs
  have ku : Hid (∀ k, (Instr.mapUpdate 64 (.map (some mb)) (.string (strOfNums l)) (.slice p n q)).run Yba.prog (w.drewN k) = .ok () { (w.drewN k) with heap := w.heap.setIfInBounds mb (.map (es.push { key := .string (strOfNums l), val := .slice p n q, born := clk }) (clk + 1)) }) := fun k => map_update (w := w.drewN k) hb hk hs
  have kn : ∀ k, (Builtin.len_ #[64] 3 #[.map (some mb)]).run Yba.prog (w.drewN k) = .ok (.int .i64 es.size) (w.drewN k) := fun k => run_len_map (w.drewN k) 64 3 mb es clk Yba.underlying64 hb
  have hz' : ¬ ((es.size : Int) = 64) := by omega
  have HCV : Hid (∀ w', (∀ j u, (u8s l)[j]? = some u → w'.cell? ⟨g, j, none⟩ = some u) → (convert 37 9 (.slice (some ⟨g, 0, none⟩) 71 c)).run Yba.prog w' = .ok (.string (strOfNums l)) w') := fun w' h => conv9 hl h
  have HG : Hid (∀ j u, (u8s l)[j]? = some u → w.cell? ⟨g, j, none⟩ = some u) := hg
  have HB : Hid (w.heap[mb]? = some (.map es clk)) := hb
  generalize strOfNums l = S at *
  clear hk hs hg hl hz
  go_enter Yba.func29, Yba.ntmps29
  go_upto_region 2 with fail
  go_quiet (fail)
  go_upto_region 5 with fail
  have ku' : Hid ((Instr.mapUpdate 64 (.map (some mb)) (.string S) (.slice p n q)).run Yba.prog (w.drewN nq).drew = .ok () { (w.drewN (nq + 1)) with heap := w.heap.setIfInBounds mb (.map (es.push { key := .string S, val := .slice p n q, born := clk }) (clk + 1)) }) := ku.out (nq + 1)
  have S1 : Hid ((w.drewN nq).drew.cell? ⟨rb, 108, none⟩ = some (.map (some mb)) ∧ ∀ j u, (u8s l)[j]? = some u → (w.drewN nq).drew.cell? ⟨g, j, none⟩ = some u) := ⟨h0, HG.out⟩
  have S2 : Hid (World.cell? { (w.drewN (nq + 1)) with heap := w.heap.setIfInBounds mb (.map (es.push { key := .string S, val := .slice p n q, born := clk }) (clk + 1)) } ⟨rb, 108, none⟩ = some (.map (some mb)) ∧ ∀ j u, (u8s l)[j]? = some u → World.cell? { (w.drewN (nq + 1)) with heap := w.heap.setIfInBounds mb (.map (es.push { key := .string S, val := .slice p n q, born := clk }) (clk + 1)) } ⟨g, j, none⟩ = some u) :=
    ⟨cell_setmap HB.out h0 _, fun j u hj => cell_setmap HB.out (HG.out j u hj) _⟩
  clear kc kl ku kn
  refine Rt.regionL (fun w' => w'.cell? ⟨rb, 108, none⟩ = some (.map (some mb)) ∧ ∀ j u, (u8s l)[j]? = some u → w'.cell? ⟨g, j, none⟩ = some u) [some (.pointer (some ⟨rb, 108, none⟩)), some (.pointer (some ⟨rb, 108, none⟩)), some (.map (some mb)), some (.slice (some ⟨g, 0, none⟩) 71 c), some (.string S), some (.slice p n q)] 1
    (by kernel_rfl) (by kernel_rfl) (by kernel_rfl) (by kernel_rfl) (by kernel_rfl) S1.out ?_ ?_
  · refine Rt.yc (Rt.y_move (by kernel_rfl) rfl (by kernel_rfl)) ?_
    refine Rt.yc (Rt.y_nil (by kernel_rfl) rfl (by kernel_rfl)) ?_
    refine Rt.yc (Rt.y_load rb 108 (by kernel_rfl) rfl (by kernel_rfl) Yba.isAgg64 (fun w h => h.1)) ?_
    refine Rt.yc (Rt.y_move (by kernel_rfl) rfl (by kernel_rfl)) ?_
    refine Rt.yc (y_conv (.slice (some ⟨g, 0, none⟩) 71 c) (by kernel_rfl) rfl (by kernel_rfl) (fun w h => HCV.out w h.2)) ?_
    refine Rt.yc (Rt.y_move (by kernel_rfl) rfl (by kernel_rfl)) ?_
    exact Rt.ye
  refine Rt.oneL 6 (by kernel_rfl) rfl (by kernel_rfl) ?_
  with_reducible refine wp_mapUpdate (m := .map (some mb)) (k := .string S) (v := .slice p n q) rfl ?_ ?_ ?_ ku'.out ?_
  · kernel_rfl
  · kernel_rfl
  · kernel_rfl
  refine ⟨S2.out, ?_⟩
  with_reducible refine Rt.done ?_ ?_ 0
  · kernel_rfl
  simp only [Rt.putL, Act.put, List.setIfInBounds_toArray, List.set_cons_succ, List.set_cons_zero]
  go_wp2
  go_end0
  exact ⟨rfl, nq + 1, rfl⟩
end Go.Proofs.Ybulkcsck.Ga
