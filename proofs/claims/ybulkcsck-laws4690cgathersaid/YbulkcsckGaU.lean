/-
  OWN TEXT. LawS4690CGather: the certificate: remembered, broadcast.
-/
import Derived.Test.YbulkcsckGaT
import Derived.Test.YbulkcsckGaL
namespace Go.Proofs.Ybulkcsck.Ga
open Go.RowKit

/-- the replica's state, the keys of the map apart -/
structure RepK (ρ : Nat → Nat) (cf : Cf) (ep : Int) (bid : List Int) (g : Gh) (ks : List ByteArray) (w : World) : Prop where
  r : ∃ C inV mV snV, Bk ρ 1 w cf.rb C 72 ∧ RC cf inV mV snV C ∧ Rw ρ 15 119 2 w snV g.qs.length (snL g.qs) ∧ Rw ρ 16 125 2 w inV g.qs.length (ibL cf.id g.qs) ∧ Mp ρ w mV ks
  k : Ky ρ cf.kb g.ans g.frm g.stm w
  s1 : Ss ρ 1 w (cf.vb 1) (cf.hb 1) (cf.gb 1) cf.n (g.cnt 1) (g.has 1) (g.sig 1)
  s2 : Ss ρ 2 w (cf.vb 2) (cf.hb 2) (cf.gb 2) cf.n (g.cnt 2) (g.has 2) (g.sig 2)
  s3 : Ss ρ 3 w (cf.vb 3) (cf.hb 3) (cf.gb 3) cf.n (g.cnt 3) (g.has 3) (g.sig 3)
  q : ∀ x ∈ g.qs, Qm ρ w ep cf.vw bid cf.pb x
theorem RepK.chg {ρ ρ' : Nat → Nat} {R : Nat → Prop} {cf : Cf} {ep : Int} {bid : List Int} {g : Gh} {ks : List ByteArray} {w w' : World} (h : RepK ρ cf ep bid g ks w) (c : Chg ρ ρ' R w w') (hR : ∀ r, 1 ≤ r → r ≤ 18 → ¬ R r) : RepK ρ' cf ep bid g ks w' := by
  obtain ⟨⟨C, inV, mV, snV, a1, a2, a3, a4, a5⟩, k, s1, s2, s3, q⟩ := h
  refine ⟨⟨C, inV, mV, snV, a1.chg c (hR _ (by decide) (by decide)), a2, a3.chg c (hR _ (by decide) (by decide)), a4.chg c (hR _ (by decide) (by decide)), a5.chg c (hR _ (by decide) (by decide))⟩, k.chg c (hR _ (by decide) (by decide)) (hR _ (by decide) (by decide)) (hR _ (by decide) (by decide)) (hR _ (by decide) (by decide)) (hR _ (by decide) (by decide)),
    s1.chg c (hR _ (by decide) (by decide)) (hR _ (by decide) (by decide)) (hR _ (by decide) (by decide)), s2.chg c (hR _ (by decide) (by decide)) (hR _ (by decide) (by decide)) (hR _ (by decide) (by decide)), s3.chg c (hR _ (by decide) (by decide)) (hR _ (by decide) (by decide)) (hR _ (by decide) (by decide)), fun x hx => (q x hx).chg c (hR _ (by decide) (by decide))⟩

theorem Rep.rem {ρ : Nat → Nat} {cf : Cf} {ep : Int} {bid : List Int} {g : Gh} {w : World} (h : Rep ρ cf ep bid g w) (gb c : Nat) (l : List Int) (p : Option Addr) (n q : Nat) (hs : ∀ x ∈ g.qs, keyS ep cf.vw bid x ≠ strOfNums l) (hq : g.qs.length ≤ 8) (hl : l.length = 71) (hg : Rw ρ 18 5 1 w (.slice (some ⟨gb, 0, none⟩) 71 c) 71 (u8s l)) :
    Calls Yba.prog 29 #[.pointer (some ⟨cf.rb, 108, none⟩), .slice (some ⟨gb, 0, none⟩) 71 c, .slice p n q] w fun e w' => e = .returned (.tuple #[]) ∧ ∃ ρ', RepK ρ' cf ep bid g (g.qs.map (keyS ep cf.vw bid) ++ [strOfNums l]) w' ∧ Chg ρ ρ' (fun r => 1 ≤ r ∧ r ≤ 17) w w' := by
  obtain ⟨⟨C, inV, mV, snV, a1, a2, a3, a4, a5⟩, k, s1, s2, s3, qq⟩ := h
  refine (remember_any ρ cf C inV mV snV (g.qs.map (keyS ep cf.vw bid)) gb c l p n q w a1 a2 a5 (fun hm => ?_) (by simp; omega) hl hg).mono ?_
  · obtain ⟨x, hx, e⟩ := List.mem_map.1 hm
    exact hs x hx e
  rintro e w' ⟨rfl, ρ', C', mV', b1, b2, b3, cg⟩
  exact ⟨rfl, ρ', ⟨⟨C', inV, mV', snV, b1, b2, a3.chg cg (by decide), a4.chg cg (by decide), b3⟩, k.chg cg (by decide) (by decide) (by decide) (by decide) (by decide), s1.chg cg (by decide) (by decide) (by decide), s2.chg cg (by decide) (by decide) (by decide), s3.chg cg (by decide) (by decide) (by decide), fun x hx => (qq x hx).chg cg (by decide)⟩, cg.mono (fun r h => by omega)⟩

theorem RepK.brd {ρ : Nat → Nat} {cf : Cf} {ep : Int} {bid : List Int} {g : Gh} {w : World} (q : Q) (h : RepK ρ cf ep bid g (g.qs.map (keyS ep cf.vw bid) ++ [keyS ep cf.vw bid q]) w) (hm : Qm ρ w ep cf.vw bid cf.pb q) (hq : g.qs.length ≤ 8) :
    Calls Yba.prog 31 #[.pointer (some ⟨cf.rb, 0, none⟩), .iface 120 (.pointer (some ⟨q.qp, 0, none⟩))] w fun e w' => e = .returned (.tuple #[]) ∧ ∃ ρ', Rep ρ' cf ep bid { g with qs := g.qs ++ [q] } w' ∧ Chg ρ ρ' (fun r => 1 ≤ r ∧ r ≤ 17) w w' := by
  obtain ⟨⟨C, inV, mV, snV, a1, a2, a3, a4, a5⟩, k, s1, s2, s3, qq⟩ := h
  refine (broadcast ρ cf C inV mV snV g.qs.length q.qp (snL g.qs) (ibL cf.id g.qs) w a1 a2 a3 a4 (by omega)).mono ?_
  rintro e w' ⟨rfl, ρ', C', inV', snV', b1, b2, b3, b4, cg⟩
  refine ⟨rfl, ρ', ⟨⟨C', inV', mV, snV', b1, b2, ?_, ?_, ?_⟩, k.chg cg (by decide) (by decide) (by decide) (by decide) (by decide), s1.chg cg (by decide) (by decide) (by decide), s2.chg cg (by decide) (by decide) (by decide), s3.chg cg (by decide) (by decide) (by decide), fun x hx => ?_⟩, cg.mono (fun r h => by omega)⟩
  · simpa [snL, msgV] using b3
  · simpa [ibL, msgV] using b4
  · simpa using a5.chg cg (by decide)
  · rcases List.mem_append.1 hx with hx | hx
    · exact (qq x hx).chg cg (by decide)
    · simp at hx
      subst hx
      exact hm.chg cg (by decide)

/-- a certificate that was formed -/
def OvQ (ρ : Nat → Nat) (cf : Cf) (ep : Int) (bid : List Int) (s : Nat) (g : Gh) (w : World) (e : Ending) (w' : World) : Prop :=
  e = .returned (.tuple #[]) ∧ ∃ ρ' q, q.st = s ∧ q.cells = sigL 0 (g.has s) (g.sig s) ∧ Rep ρ' cf ep bid { g with qs := g.qs ++ [q] } w' ∧ Chg ρ ρ' (fun r => 1 ≤ r ∧ r ≤ 17) w w'

theorem Chg.setCells_new {ρ ρ' : Nat → Nat} {R : Nat → Prop} {w w1 : World} {qb : Nat} (h : Chg ρ ρ' R w w1) (hq : w.heap.size ≤ qb) (o : Nat) (vs : List Value) : Chg ρ ρ' R w (w1.setCells qb o vs) := by
  have c := setCells_chg (ρ := fun k => if k = qb then 1 else 0) (R := (· = 1)) (b := qb) (by simp) vs o w1
  exact ⟨c.os.trans h.os, c.tape.trans h.tape, c.output.trans h.output, Nat.le_trans h.size c.size, h.ext, fun k hk hr => (c.block k (Nat.lt_of_lt_of_le hk h.size) (by
    have : ¬ k = qb := by omega
    simp [this])).trans (h.block k hk hr)⟩
/-- what is there before the certificate's variable is filled, and after -/
structure Q5 (ρ ρ8 : Nat → Nat) (cf : Cf) (ep : Int) (bid : List Int) (g : Gh) (w w8 : World) (qb : Nat) (Z : List Value) (sv : Value) (m : Nat) (cells : List Value) : Prop where
  rep : Rep ρ8 cf ep bid g w8
  row : Rw ρ8 18 39 2 w8 sv m cells
  b : Bk ρ8 19 w8 qb Z.toArray 32
  c : Chg ρ ρ8 (fun r => 1 ≤ r ∧ r ≤ 17) w w8
  n : w.heap.size ≤ qb
theorem Q5.fill {ρ ρ8 : Nat → Nat} {cf : Cf} {ep : Int} {bid : List Int} {g : Gh} {w w8 : World} {qb : Nat} {Z : List Value} {sv : Value} {m : Nat} {cells : List Value} (h : Q5 ρ ρ8 cf ep bid g w w8 qb Z sv m cells) (cs : List Value) (hz : Z.length = cs.length) :
    Q5 ρ ρ8 cf ep bid g w (w8.setCells qb 0 cs) qb cs sv m cells ∧ w8.there qb 0 cs.length := by
  have c : Chg ρ8 ρ8 (· = 19) w8 (w8.setCells qb 0 cs) := setCells_chg h.b.r cs 0 w8
  obtain ⟨c', k1, k2, k3⟩ := setCells_blk cs 0 w8 Z.toArray h.b.h (by simp [hz])
  refine ⟨⟨h.rep.chg c (fun r _ _ => by omega), h.row.chg c (by decide), ⟨?_, h.b.r⟩, h.c.setCells_new h.n 0 cs, h.n⟩, ?_⟩
  · rw [k1]
    have e : c' = cs.toArray := by
      apply Array.ext'
      simp only [Nat.zero_add, List.take_zero, List.nil_append] at k3
      rw [← k3]
      refine (List.take_of_length_le ?_).symm
      simp [k2, hz]
    rw [e]
  · intro j hj
    refine ⟨?_, h.b.fz _⟩
    have hjz : 0 + j < Z.length := by omega
    have hc : Z.toArray[0 + j]? = some Z[0 + j] := by simp
    rw [h.b.cell hc]
    rfl
end Go.Proofs.Ybulkcsck.Ga
