/-
  OWN TEXT. LawS4690CGather: the law's own state.
-/
import Derived.Test.YbulkcsckGaW
namespace Go.Proofs.Ybulkcsck.Ga
open Go.RowKit

/-! ### the law's code in pieces -/
def cA : Code → Code
  | .seq a _ => a
  | c => c
def cB : Code → Code
  | .seq _ b => b
  | c => c
def cIn : Code → Code
  | .block _ b => b
  | .loop b => b
  | c => c
def nB : Nat → Code → Code
  | 0, c => c
  | n + 1, c => nB n (cB c)
def nth (n : Nat) (c : Code) : Code := cA (nB n c)
noncomputable def c6 : Code := Yba.f6.body.getD .skip
/-- the round of the main loop -/
noncomputable def b6 : Code := cIn (cA (cB (cIn (cIn (cB (nth 27 c6))))))

/-- one step of the input -/
structure SD where
  fr : Nat
  sg : Nat
  ms : Nat
  ok : Bool
  p : Option Addr
  m : Nat
  c : Nat
def SD.sv (d : SD) : Value := .slice d.p d.m d.c
def SD.L (d : SD) : List Value := [.int .u8 (d.fr : Nat), .int .u8 (d.sg : Nat), .int .u8 (d.ms : Nat), .bool d.ok, .slice d.p d.m d.c]
def Byt (w : World) (p : Option Addr) (m : Nat) : Prop := m = 0 ∨ ∃ b o l, p = some ⟨b, o, none⟩ ∧ l.length = m ∧ ∀ j u, (u8s l)[j]? = some u → w.cell? ⟨b, o + j, none⟩ = some u
structure Inp (w : World) (ps : Option Addr) (xs : List SD) : Prop where
  e : xs = [] ∨ ∃ b o, ps = some ⟨b, o, none⟩ ∧ ∀ k d, xs[k]? = some d → w.rangeAt b (o + k * 5) d.L
  r : ∀ d ∈ xs, d.fr ≤ 255 ∧ d.sg ≤ 255 ∧ d.ms ≤ 255
  y : ∀ d ∈ xs, Byt w d.p d.m
theorem Byt.below {w w' : World} {p : Option Addr} {m : Nat} (h : Byt w p m) (b : Below w.heap.size w w') : Byt w' p m := by
  rcases h with h | ⟨g, o, l, h1, h2, h3⟩
  · exact .inl h
  · exact .inr ⟨g, o, l, h1, h2, fun j u hj => (b.cell (p := ⟨g, o + j, none⟩) (World.block_lt_of_cell? w ⟨g, o + j, none⟩ (h3 j u hj))).trans (h3 j u hj)⟩
theorem Inp.below {w w' : World} {ps : Option Addr} {xs : List SD} (h : Inp w ps xs) (b : Below w.heap.size w w') : Inp w' ps xs := by
  refine ⟨?_, h.r, fun d hd => (h.y d hd).below b⟩
  rcases h.e with h | ⟨g, o, h1, h2⟩
  · exact .inl h
  · exact .inr ⟨g, o, h1, fun k d hk j u hj => (b.cell (p := ⟨g, o + k * 5 + j, none⟩) (World.block_lt_of_cell? w ⟨g, o + k * 5 + j, none⟩ (h2 k d hk j u hj))).trans (h2 k d hk j u hj)⟩

/-- the input's blocks have role 0 and stand -/
structure In0 (ρ : Nat → Nat) (w0 w : World) : Prop where
  b : Below w0.heap.size w0 w
  r : ∀ k, k < w0.heap.size → ρ k = 0
theorem In0.chg {ρ ρ' : Nat → Nat} {R : Nat → Prop} {w0 w w' : World} (h : In0 ρ w0 w) (c : Chg ρ ρ' R w w') (hr : ¬ R 0) : In0 ρ' w0 w' :=
  ⟨h.b.trans (c.below h.b.size (fun k hk => by rw [h.r k hk]; exact hr)), fun k hk => (c.ext k (Nat.lt_of_lt_of_le hk h.b.size)).trans (h.r k hk)⟩

/-- what does not change in the run -/
structure Lw where
  cf : Cf
  ep : Int
  tg : Int
  bid : List Int
  bb : Nat
  ps : Option Addr
  ln : Nat
  cp : Nat
  hA : Nat
  iA : Nat
  cA : Nat
  lh : Nat → Nat
  li : Nat → Nat
def Lw.vot (L : Lw) : Bool := L.cf.pb.isSome && (!L.cf.lv && decide (L.cf.wi ≤ L.cf.vw))

/-- the frame's slots that do not change -/
structure Fr (a : Act) (L : Lw) : Prop where
  sz : a.tmps.size = 556
  df : a.defers = []
  s4 : a.tmps[4]? = some (.int .u8 L.tg)
  s5 : a.tmps[5]? = some (.int .i64 L.ep)
  s6 : a.tmps[6]? = some (.int .i64 L.cf.vw)
  s7 : a.tmps[7]? = some (.slice L.ps L.ln L.cp)
  s18 : a.tmps[18]? = some (.int .i64 L.cf.n)
  s19 : a.tmps[19]? = some (.int .i64 L.cf.id)
  s23 : a.tmps[23]? = some (.pointer (some ⟨L.bb, 0, none⟩))
  s24 : a.tmps[24]? = some (.pointer L.cf.pb)
  s25 : a.tmps[25]? = some (.pointer (some ⟨L.cf.kb, 0, none⟩))
  s26 : a.tmps[26]? = some (.pointer (some ⟨L.cf.rb, 0, none⟩))
  s28 : a.tmps[28]? = some (.bool L.vot)
  s29 : a.tmps[29]? = some (.int .i64 ((L.cf.n - L.cf.f : Nat) : Int))
  s30 : a.tmps[30]? = some (.pointer (some ⟨L.hA, 0, none⟩))
  s31 : a.tmps[31]? = some (.pointer (some ⟨L.iA, 0, none⟩))
  s32 : a.tmps[32]? = some (.pointer (some ⟨L.cA, 0, none⟩))
theorem Fr.set {X : Array Value} {D : List Deferred} {L : Lw} (h : Fr ⟨X, D⟩ L) (d : Nat) (v : Value) (hd : [4, 5, 6, 7, 18, 19, 23, 24, 25, 26, 28, 29, 30, 31, 32].all (fun k => d != k) = true) : Fr ⟨X.setIfInBounds d v, D⟩ L := by
  simp only [List.all_cons, List.all_nil, Bool.and_true, Bool.and_eq_true, bne_iff_ne] at hd
  obtain ⟨q4, q5, q6, q7, q18, q19, q23, q24, q25, q26, q28, q29, q30, q31, q32⟩ := hd
  exact ⟨by simpa using h.sz, h.df, set_ne h.s4 q4, set_ne h.s5 q5, set_ne h.s6 q6, set_ne h.s7 q7, set_ne h.s18 q18, set_ne h.s19 q19, set_ne h.s23 q23, set_ne h.s24 q24, set_ne h.s25 q25, set_ne h.s26 q26, set_ne h.s28 q28, set_ne h.s29 q29, set_ne h.s30 q30, set_ne h.s31 q31, set_ne h.s32 q32⟩
theorem sl {X : Array Value} {k : Nat} {v : Value} (h : X[k]? = some v) : ∃ p : k < X.size, X[k]'p = v := Array.getElem?_eq_some_iff.1 h
theorem set_at {X : Array Value} {k : Nat} (v : Value) (h : k < X.size) : (X.setIfInBounds k v)[k]? = some v := by simp [h]

/-- slots that stand -/
def Same (ks : List Nat) (a a' : Act) : Prop := ∀ k ∈ ks, a'.tmps[k]? = a.tmps[k]?
theorem Same.refl (ks : List Nat) (a : Act) : Same ks a a := fun _ _ => rfl
theorem Same.trans {ks : List Nat} {a b c : Act} (h : Same ks a b) (k : Same ks b c) : Same ks a c := fun i hi => (k i hi).trans (h i hi)
theorem Same.sub {ks js : List Nat} {a b : Act} (h : Same ks a b) (hs : ∀ j ∈ js, j ∈ ks) : Same js a b := fun i hi => h i (hs i hi)
theorem Same.set {ks : List Nat} {a : Act} {X : Array Value} {D : List Deferred} (h : Same ks a ⟨X, D⟩) (d : Nat) (v : Value) (hd : ks.all (fun k => d != k) = true) : Same ks a ⟨X.setIfInBounds d v, D⟩ := fun k hk => by
  have : d ≠ k := by simpa using List.all_eq_true.1 hd k hk
  rw [← h k hk]
  exact Array.getElem?_setIfInBounds_ne this

/-! ### the law's memory -/
def WF (ρ : Nat → Nat) (w : World) (v : Value) (frm : List Int) : Prop := Rw ρ 31 3 1 w v frm.length (i64s frm)
def WS (ρ : Nat → Nat) (w : World) (v : Value) (stm : List (List Int)) : Prop := ∃ ss, Rw ρ 32 37 1 w v stm.length ss ∧ Sts ρ 35 w ss stm
def nl : Value := .slice none 0 0
def row (b n : Nat) : Value := .slice (some ⟨b, 0, none⟩) n n
structure LH (ρ : Nat → Nat) (L : Lw) (has : Nat → List Bool) (w : World) : Prop where
  a : Bk ρ 22 w L.hA #[.slice none 0 0, .slice (some ⟨L.lh 1, 0, none⟩) L.cf.n L.cf.n, .slice (some ⟨L.lh 2, 0, none⟩) L.cf.n L.cf.n, .slice (some ⟨L.lh 3, 0, none⟩) L.cf.n L.cf.n] 104
  r : ∀ s, 1 ≤ s → s ≤ 3 → Bk ρ (24 + s) w (L.lh s) ((has s).map Value.bool).toArray 4
structure LI (ρ : Nat → Nat) (L : Lw) (ix : Nat → List Nat) (w : World) : Prop where
  a : Bk ρ 23 w L.iA #[.slice none 0 0, .slice (some ⟨L.li 1, 0, none⟩) L.cf.n L.cf.n, .slice (some ⟨L.li 2, 0, none⟩) L.cf.n L.cf.n, .slice (some ⟨L.li 3, 0, none⟩) L.cf.n L.cf.n] 105
  r : ∀ s, 1 ≤ s → s ≤ 3 → Bk ρ (27 + s) w (L.li s) ((ix s).map fun k => Value.int .i64 (k : Nat)).toArray 3
def LC (ρ : Nat → Nat) (L : Lw) (cnt : Nat → Nat) (w : World) : Prop := Bk ρ 24 w L.cA #[.int .i64 0, .int .i64 (cnt 1 : Nat), .int .i64 (cnt 2 : Nat), .int .i64 (cnt 3 : Nat)] 106
structure LQ (ρ : Nat → Nat) (w : World) (v36 v37 : Value) (qs : List Q) : Prop where
  s : Rw ρ 33 3 1 w v36 qs.length (qs.map fun q => Value.int .i64 (q.st : Nat))
  g : ∃ ss, Rw ρ 34 26 1 w v37 qs.length ss ∧ ∀ (j : Nat) (v : Value) (q : Q), ss[j]? = some v → qs[j]? = some q → ∃ m, Rw ρ 35 39 2 w v m q.cells
/-- all of the law's memory -/
structure LM (ρ : Nat → Nat) (L : Lw) (w0 : World) (g : Gh) (ix : Nat → List Nat) (v34 v35 v36 v37 : Value) (w : World) : Prop where
  i0 : In0 ρ w0 w
  bd : Bk ρ 20 w L.bb (u8s L.bid).toArray 30
  pb : PB ρ L.cf.pb L.ep L.cf.vw L.bid w
  wf : WF ρ w v34 g.frm
  ws : WS ρ w v35 g.stm
  lh : LH ρ L g.has w
  li : LI ρ L ix w
  lc : LC ρ L g.cnt w
  lq : LQ ρ w v36 v37 g.qs
section
variable {ρ ρ' : Nat → Nat} {R : Nat → Prop} {L : Lw} {w w' w0 : World}
theorem WS.chg {v : Value} {stm : List (List Int)} (h : WS ρ w v stm) (c : Chg ρ ρ' R w w') (h1 : ¬ R 32) (h2 : ¬ R 35) : WS ρ' w' v stm := by
  obtain ⟨ss, a, b⟩ := h
  exact ⟨ss, a.chg c h1, b.chg c h2⟩
theorem LH.chg {has : Nat → List Bool} (h : LH ρ L has w) (c : Chg ρ ρ' R w w') (h1 : ¬ R 22) (h2 : ∀ s, 1 ≤ s → s ≤ 3 → ¬ R (24 + s)) : LH ρ' L has w' := ⟨h.a.chg c h1, fun s a b => (h.r s a b).chg c (h2 s a b)⟩
theorem LI.chg {ix : Nat → List Nat} (h : LI ρ L ix w) (c : Chg ρ ρ' R w w') (h1 : ¬ R 23) (h2 : ∀ s, 1 ≤ s → s ≤ 3 → ¬ R (27 + s)) : LI ρ' L ix w' := ⟨h.a.chg c h1, fun s a b => (h.r s a b).chg c (h2 s a b)⟩
theorem LQ.chg {v36 v37 : Value} {qs : List Q} (h : LQ ρ w v36 v37 qs) (c : Chg ρ ρ' R w w') (h1 : ¬ R 33) (h2 : ¬ R 34) (h3 : ¬ R 35) : LQ ρ' w' v36 v37 qs := by
  obtain ⟨ss, a, b⟩ := h.g
  refine ⟨h.s.chg c h1, ss, a.chg c h2, fun j v q hv hq => ?_⟩
  obtain ⟨m, k⟩ := b j v q hv hq
  exact ⟨m, k.chg c h3⟩
theorem LM.chg {g : Gh} {ix : Nat → List Nat} {v34 v35 v36 v37 : Value} (h : LM ρ L w0 g ix v34 v35 v36 v37 w) (c : Chg ρ ρ' R w w') (h0 : ¬ R 0) (hR : ∀ r, 20 ≤ r → r ≤ 35 → ¬ R r) : LM ρ' L w0 g ix v34 v35 v36 v37 w' :=
  ⟨h.i0.chg c h0, h.bd.chg c (hR _ (by decide) (by decide)), h.pb.chg c (hR _ (by decide) (by decide)), Rw.chg h.wf c (hR _ (by decide) (by decide)), h.ws.chg c (hR _ (by decide) (by decide)) (hR _ (by decide) (by decide)), h.lh.chg c (hR _ (by decide) (by decide)) (fun s _ _ => hR _ (by omega) (by omega)),
    h.li.chg c (hR _ (by decide) (by decide)) (fun s _ _ => hR _ (by omega) (by omega)), Bk.chg h.lc c (hR _ (by decide) (by decide)), h.lq.chg c (hR _ (by decide) (by decide)) (hR _ (by decide) (by decide)) (hR _ (by decide) (by decide))⟩
end
end Go.Proofs.Ybulkcsck.Ga
