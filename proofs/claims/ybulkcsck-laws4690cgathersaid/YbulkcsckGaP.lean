/-
  OWN TEXT. LawS4690CGather: the replica's whole state; signed at any sender.
-/
import Derived.Test.YbulkcsckGaM
namespace Go.Proofs.Ybulkcsck.Ga
open Go.RowKit

/-- a certificate that was formed: its stage, its message's block, its signatures -/
structure Q where
  st : Nat
  qp : Nat
  sv : Value
  m : Nat
  cells : List Value
/-- what the run has done so far -/
structure Gh where
  ans : Bool
  frm : List Int
  stm : List (List Int)
  has : Nat → List Bool
  cnt : Nat → Nat
  sig : Nat → List Value
  qs : List Q
def msgV (q : Q) : Value := .iface 120 (.pointer (some ⟨q.qp, 0, none⟩))
def snL (qs : List Q) : List Value := qs.flatMap fun q => [.int .i64 (-1), msgV q]
def ibL (id : Nat) (qs : List Q) : List Value := qs.flatMap fun q => [.int .i64 id, msgV q]
/-- the message of a certificate, in memory -/
structure Qm (ρ : Nat → Nat) (w : World) (ep vw : Int) (bid : List Int) (pb : Option Addr) (q : Q) : Prop where
  b : Bk ρ 18 w q.qp (qcL q.st ep vw bid q.sv ++ [Value.pointer pb]).toArray 123
  r : Rw ρ 18 39 2 w q.sv q.m q.cells
theorem Qm.chg {ρ ρ' : Nat → Nat} {R : Nat → Prop} {w w' : World} {ep vw : Int} {bid : List Int} {pb : Option Addr} {q : Q} (h : Qm ρ w ep vw bid pb q) (k : Chg ρ ρ' R w w') (hr : ¬ R 18) : Qm ρ' w' ep vw bid pb q := ⟨h.b.chg k hr, h.r.chg k hr⟩
def keyS (ep vw : Int) (bid : List Int) (q : Q) : ByteArray := strOfNums (stL q.st ep vw bid)

/-- the replica's state -/
structure Rep (ρ : Nat → Nat) (cf : Cf) (ep : Int) (bid : List Int) (g : Gh) (w : World) : Prop where
  r : ∃ C inV mV snV, Bk ρ 1 w cf.rb C 72 ∧ RC cf inV mV snV C ∧ Rw ρ 15 119 2 w snV g.qs.length (snL g.qs) ∧ Rw ρ 16 125 2 w inV g.qs.length (ibL cf.id g.qs) ∧ Mp ρ w mV (g.qs.map (keyS ep cf.vw bid))
  k : Ky ρ cf.kb g.ans g.frm g.stm w
  s1 : Ss ρ 1 w (cf.vb 1) (cf.hb 1) (cf.gb 1) cf.n (g.cnt 1) (g.has 1) (g.sig 1)
  s2 : Ss ρ 2 w (cf.vb 2) (cf.hb 2) (cf.gb 2) cf.n (g.cnt 2) (g.has 2) (g.sig 2)
  s3 : Ss ρ 3 w (cf.vb 3) (cf.hb 3) (cf.gb 3) cf.n (g.cnt 3) (g.has 3) (g.sig 3)
  q : ∀ x ∈ g.qs, Qm ρ w ep cf.vw bid cf.pb x
theorem Rep.chg {ρ ρ' : Nat → Nat} {R : Nat → Prop} {cf : Cf} {ep : Int} {bid : List Int} {g : Gh} {w w' : World} (h : Rep ρ cf ep bid g w) (c : Chg ρ ρ' R w w') (hR : ∀ r, 1 ≤ r → r ≤ 18 → ¬ R r) : Rep ρ' cf ep bid g w' := by
  obtain ⟨⟨C, inV, mV, snV, a1, a2, a3, a4, a5⟩, k, s1, s2, s3, q⟩ := h
  refine ⟨⟨C, inV, mV, snV, a1.chg c (hR _ (by decide) (by decide)), a2, a3.chg c (hR _ (by decide) (by decide)), a4.chg c (hR _ (by decide) (by decide)), a5.chg c (hR _ (by decide) (by decide))⟩, k.chg c (hR _ (by decide) (by decide)) (hR _ (by decide) (by decide)) (hR _ (by decide) (by decide)) (hR _ (by decide) (by decide)) (hR _ (by decide) (by decide)),
    s1.chg c (hR _ (by decide) (by decide)) (hR _ (by decide) (by decide)) (hR _ (by decide) (by decide)), s2.chg c (hR _ (by decide) (by decide)) (hR _ (by decide) (by decide)) (hR _ (by decide) (by decide)), s3.chg c (hR _ (by decide) (by decide)) (hR _ (by decide) (by decide)) (hR _ (by decide) (by decide)), fun x hx => (q x hx).chg c (hR _ (by decide) (by decide))⟩

/-- the state behind 'signed' -/
def sgn (fr : Int) (id : Nat) (l : List Int) (g : Gh) : Gh := if fr = id then g else { g with frm := g.frm ++ [fr], stm := g.stm ++ [l] }
def SgP (ρ : Nat → Nat) (cf : Cf) (ep : Int) (bid : List Int) (g : Gh) (r : Bool) (w : World) (e : Ending) (w' : World) : Prop :=
  ∃ ρ', e = .returned (.bool r) ∧ Rep ρ' cf ep bid g w' ∧ Chg ρ ρ' (fun r => r = 2 ∨ r = 12 ∨ r = 13 ∨ r = 14) w w'

theorem signed_any (ρ : Nat → Nat) (cf : Cf) (ep : Int) (bid : List Int) (g : Gh) (gb c : Nat) (fr : Int) (l : List Int) (ps : Option Addr) (ns cs : Nat) (w : World) (h : Rep ρ cf ep bid g w) (hg : Rw ρ 18 5 1 w (.slice (some ⟨gb, 0, none⟩) 71 c) 71 (u8s l)) (hl : l.length = 71) (hle : g.frm.length ≤ 900) :
    Calls Yba.prog 24 #[.pointer (some ⟨cf.rb, 0, none⟩), .int .i64 fr, .slice (some ⟨gb, 0, none⟩) 71 c, .slice ps ns cs] w (SgP ρ cf ep bid (sgn fr cf.id l g) (decide (fr = cf.id) || g.ans) w) := by
  obtain ⟨C, inV, mV, snV, a1, a2, a3, a4, a5⟩ := h.r
  by_cases hid : fr = cf.id
  · subst hid
    refine (signed_own cf.rb cf.id _ _ w (a1.cell a2.id)).mono ?_
    rintro e w' ⟨rfl, rfl⟩
    refine ⟨ρ, by simp, ?_, Chg.refl _ _ _⟩
    unfold sgn
    rw [if_pos rfl]
    exact h
  · refine (signed_foreign ρ cf.rb cf.kb gb c cf.id fr g.ans g.frm g.stm l ps ns cs w (a1.cell a2.id) (a1.cell a2.k) hid h.k hg hl hle).mono ?_
    rintro e w' ⟨ρ', rfl, k', c'⟩
    refine ⟨ρ', by simp [hid], ?_, c'⟩
    unfold sgn
    rw [if_neg hid]
    exact ⟨⟨C, inV, mV, snV, a1.chg c' (by decide), a2, a3.chg c' (by decide), a4.chg c' (by decide), a5.chg c' (by decide)⟩, k', h.s1.chg c' (by decide) (by decide) (by decide), h.s2.chg c' (by decide) (by decide) (by decide), h.s3.chg c' (by decide) (by decide) (by decide), fun x hx => (h.q x hx).chg c' (by decide)⟩
end Go.Proofs.Ybulkcsck.Ga
