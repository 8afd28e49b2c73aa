/-
  OWN TEXT. LawS4690CGather: onVote in one contract.
-/
import Derived.Test.YbulkcsckGaV
import Derived.Test.YbulkcsckGaN
import Derived.Test.YbulkcsckGaO
namespace Go.Proofs.Ybulkcsck.Ga
open Go.RowKit

/-- the proposed block -/
def PB (ρ : Nat → Nat) (pb : Option Addr) (ep vw : Int) (bid : List Int) (w : World) : Prop :=
  pb = none ∨ ∃ bb c, pb = some ⟨bb, 0, none⟩ ∧ Bk ρ 21 w bb c 44 ∧ c[0]? = some (.int .i64 ep) ∧ c[1]? = some (.int .i64 vw) ∧ ∀ j u, (u8s bid)[j]? = some u → c[36 + j]? = some u
theorem PB.chg {ρ ρ' : Nat → Nat} {R : Nat → Prop} {pb : Option Addr} {ep vw : Int} {bid : List Int} {w w' : World} (h : PB ρ pb ep vw bid w) (c : Chg ρ ρ' R w w') (hr : ¬ R 21) : PB ρ' pb ep vw bid w' := by
  rcases h with h | ⟨bb, k, h1, h2, h3⟩
  · exact .inl h
  · exact .inr ⟨bb, k, h1, h2.chg c hr, h3⟩
theorem PB.gate {ρ : Nat → Nat} {bb : Nat} {ep vw : Int} {bid : List Int} {w : World} (h : PB ρ (some ⟨bb, 0, none⟩) ep vw bid w) {mb : Nat} {s e v : Int} {bm : List Int} (hv : VoteAt mb s e v bm w) : GateS mb bb s e v ep vw bm bid w ∧ ρ bb = 21 := by
  rcases h with h | ⟨b', c, h1, h2, h3, h4, h5⟩
  · cases h
  · cases h1
    exact ⟨⟨hv, h2.cell h3, h2.cell h4, fun j u hj => h2.cell (h5 j u hj)⟩, h2.r⟩

theorem onVote_skip (ρ : Nat → Nat) (cf : Cf) (ep : Int) (bid bm : List Int) (g : Gh) (mb : Nat) (fr : Value) (s e v : Int) (w : World) (h : Rep ρ cf ep bid g w) (hp : PB ρ cf.pb ep cf.vw bid w) (hm : VoteAt mb s e v bm w) (hbm : bm.length = 32) (hbl : bid.length = 32)
    (hno : cf.pb = none ∨ (!cf.lv && decide (cf.wi ≤ cf.vw)) = false ∨ e ≠ ep ∨ v ≠ cf.vw ∨ bm ≠ bid ∨ s < 1 ∨ 3 < s) :
    Calls Yba.prog 14 #[.pointer (some ⟨cf.rb, 0, none⟩), fr, .pointer (some ⟨mb, 0, none⟩)] w (OvP ρ cf ep bid g w) := by
  obtain ⟨C, inV, mV, snV, a1, a2, a3, a4, a5⟩ := h.r
  have fin : ∀ e w', (e = Ending.returned (.tuple #[]) ∧ Below w.heap.size w w') → OvP ρ cf ep bid g w e w' := fun e w' q =>
    ⟨q.1, rx ρ w 18, h.chg (Chg.of_below (R := fun _ => False) q.2 18) (fun _ _ _ q => q), Chg.of_below q.2 18⟩
  have h96 : w.cell? ⟨cf.rb, 96, none⟩ = some (.pointer cf.pb) := a1.cell a2.pb
  have h12 : w.cell? ⟨cf.rb, 12, none⟩ = some (.bool cf.lv) := a1.cell a2.lv
  have h11 : w.cell? ⟨cf.rb, 11, none⟩ = some (.int .i64 cf.wi) := a1.cell a2.wi
  have h10 : w.cell? ⟨cf.rb, 10, none⟩ = some (.int .i64 cf.vw) := a1.cell a2.vw
  rcases hpb : cf.pb with _ | ⟨bb⟩
  · rw [hpb] at h96
    exact (gate0 cf.rb mb fr w h96).mono fin
  · obtain ⟨bb, rfl⟩ : ∃ b, bb = ⟨b, 0, none⟩ := by
      rcases hp with hp | ⟨b, c, hp, _⟩
      · rw [hpb] at hp; cases hp
      · rw [hpb] at hp; cases hp; exact ⟨b, rfl⟩
    rw [hpb] at h96 hp hno
    have hG := (hp.gate hm).1
    by_cases hv : (!cf.lv && decide (cf.wi ≤ cf.vw)) = false
    · exact (gate1 cf.rb mb bb fr w h96 cf.lv cf.wi cf.vw h12 h11 h10 hv).mono fin
    · have hv : (!cf.lv && decide (cf.wi ≤ cf.vw)) = true := by simpa using hv
      by_cases h2 : e = ep
      · have h2' : (e != ep) = false := by simp [h2]
        by_cases h3 : v = cf.vw
        · have h3' : (v != cf.vw) = false := by simp [h3]
          by_cases h4 : bm = bid
          · have h4' : (!(bm == bid)) = false := by simp [h4]
            by_cases h5 : s < 1
            · exact (gate5 cf.rb mb bb fr w h96 cf.lv cf.wi cf.vw h12 h11 h10 s e v ep cf.vw bm bid hbm hbl hG hv h2' h3' h4' (decide_eq_true h5)).mono fin
            · refine (gate6 cf.rb mb bb fr w h96 cf.lv cf.wi cf.vw h12 h11 h10 s e v ep cf.vw bm bid hbm hbl hG hv h2' h3' h4' (decide_eq_false h5) (decide_eq_true ?_)).mono fin
              rcases hno with q | q | q | q | q | q | q
              · cases q
              · rw [hv] at q; cases q
              · exact absurd h2 q
              · exact absurd h3 q
              · exact absurd h4 q
              · exact absurd q h5
              · exact q
          · exact (gate4 cf.rb mb bb fr w h96 cf.lv cf.wi cf.vw h12 h11 h10 s e v ep cf.vw bm bid hbm hbl hG hv h2' h3' (by simp [h4])).mono fin
        · exact (gate3 cf.rb mb bb fr w h96 cf.lv cf.wi cf.vw h12 h11 h10 s e v ep cf.vw bm bid hbm hbl hG hv h2' (by simp [h3])).mono fin
      · exact (gate2 cf.rb mb bb fr w h96 cf.lv cf.wi cf.vw h12 h11 h10 s e v ep cf.vw bm bid hbm hbl hG hv (by simp [h2])).mono fin

/-- the run's state behind a vote that matches -/
inductive Step (cf : Cf) (fr s : Nat) (l : List Int) (sv : Value) (g : Gh) : Gh → Prop
  | refused (h : (decide ((fr : Int) = cf.id) || g.ans) = false) : Step cf fr s l sv g (sgn fr cf.id l g)
  | there (h : (decide ((fr : Int) = cf.id) || g.ans) = true) (hh : (g.has s)[fr]? = some true) : Step cf fr s l sv g (sgn fr cf.id l g)
  | added (h : (decide ((fr : Int) = cf.id) || g.ans) = true) (hh : (g.has s)[fr]? = some false) (hq : (((g.cnt s + 1 : Nat) : Int) == ((cf.n - cf.f : Nat) : Int)) = false) : Step cf fr s l sv g (addG s fr sv (sgn fr cf.id l g))
  | quorum (h : (decide ((fr : Int) = cf.id) || g.ans) = true) (hh : (g.has s)[fr]? = some false) (hq : (((g.cnt s + 1 : Nat) : Int) == ((cf.n - cf.f : Nat) : Int)) = true) (q : Q) (h1 : q.st = s) (h2 : q.cells = sigL 0 ((addG s fr sv (sgn fr cf.id l g)).has s) ((addG s fr sv (sgn fr cf.id l g)).sig s)) :
      Step cf fr s l sv g { (addG s fr sv (sgn fr cf.id l g)) with qs := (addG s fr sv (sgn fr cf.id l g)).qs ++ [q] }

theorem key_ne (s t : Nat) (ep vw : Int) (bid : List Int) (hs : 1 ≤ s ∧ s ≤ 3) (ht : 1 ≤ t ∧ t ≤ 3) (h : strOfNums (stL t ep vw bid) = strOfNums (stL s ep vw bid)) : t = s := by
  have e := congrArg (fun b : ByteArray => b.data[22]?) h
  have k : ∀ x : Nat, 1 ≤ x ∧ x ≤ 3 → (strOfNums (stL x ep vw bid)).data[22]? = some (UInt8.ofNat x) := by
    intro x hx
    rcases (by omega : x = 1 ∨ x = 2 ∨ x = 3) with rfl | rfl | rfl <;> rfl
  simp only [k s hs, k t ht] at e
  rcases (by omega : s = 1 ∨ s = 2 ∨ s = 3) with rfl | rfl | rfl <;> rcases (by omega : t = 1 ∨ t = 2 ∨ t = 3) with rfl | rfl | rfl <;> first | rfl | (exact absurd e (by decide))

theorem sgn_mem {fr : Int} {id : Nat} {l : List Int} {g : Gh} {s k : Nat} {p : Option Addr} {n c : Nat} (h : ∀ v ∈ g.sig s, ∃ p m c, v = .slice p m c) : ∀ v ∈ (addG s k (.slice p n c) (sgn fr id l g)).sig s, ∃ p m c, v = .slice p m c := by
  intro v hv
  simp only [addG, sgn_sig, if_true] at hv
  rcases List.mem_or_eq_of_mem_set hv with hv | rfl
  · exact h v hv
  · exact ⟨_, _, _, rfl⟩

theorem onVote_match (cf : Cf) (ρ : Nat → Nat) (ep : Int) (bid : List Int) (g : Gh) (mb fr s : Nat) (ps : Option Addr) (ns cs : Nat) (w : World) (hR : Rep ρ cf ep bid g w) (hp : PB ρ cf.pb ep cf.vw bid w) (hpn : cf.pb ≠ none) (hv : (!cf.lv && decide (cf.wi ≤ cf.vw)) = true) (hm : VoteAt mb s ep cf.vw bid w) (hbl : bid.length = 32) (h1 : 1 ≤ s) (h3 : s ≤ 3)
    (hsig : w.cell? ⟨mb, 35, none⟩ = some (.slice ps ns cs)) (hmr : ρ mb = 35) (hle : g.frm.length ≤ 900) (hfr : fr < cf.n) (hcn : g.cnt s ≤ 500) (hn : cf.n ≤ 1000) (hf : cf.f ≤ cf.n) (hsl : ∀ v ∈ g.sig s, ∃ p m c, v = .slice p m c) (hql : g.qs.length ≤ 8) (hqs : ∀ x ∈ g.qs, 1 ≤ x.st ∧ x.st ≤ 3) (hqc : ∀ x ∈ g.qs, cf.n - cf.f ≤ g.cnt x.st) :
    Calls Yba.prog 14 #[.pointer (some ⟨cf.rb, 0, none⟩), .int .i64 (fr : Int), .pointer (some ⟨mb, 0, none⟩)] w fun e w' => e = .returned (.tuple #[]) ∧ ∃ ρ' g', Step cf fr s (stL s ep cf.vw bid) (.slice ps ns cs) g g' ∧ Rep ρ' cf ep bid g' w' ∧ Chg ρ ρ' (fun r => 1 ≤ r ∧ r ≤ 17) w w' := by
  obtain ⟨bb, hpb⟩ : ∃ bb, cf.pb = some ⟨bb, 0, none⟩ := by
    rcases hp with hp | ⟨b, c, hp, _⟩
    · exact absurd hp hpn
    · exact ⟨b, hp⟩
  rw [hpb] at hp
  obtain ⟨hG, hbr⟩ := hp.gate hm
  cases hres : (decide ((fr : Int) = cf.id) || g.ans)
  · refine (matchT1 cf ρ ep bid g mb bb fr s ps ns cs w hR hpb hv hG hbl h1 h3 hsig hmr hle hres).mono ?_
    rintro e w' ⟨rfl, ρ', r, c⟩
    exact ⟨rfl, ρ', _, .refused hres, r, c⟩
  · have hlen := (hR.ss h1 h3).lh
    obtain ⟨b, hb⟩ : ∃ b, (g.has s)[fr]? = some b := ⟨_, List.getElem?_eq_getElem (by omega)⟩
    cases b
    · cases hq : (((g.cnt s + 1 : Nat) : Int) == ((cf.n - cf.f : Nat) : Int))
      · refine (matchT3 cf ρ ep bid g mb bb fr s ps ns cs w hR hpb hv hG hbl h1 h3 hsig hmr hle hres hb hcn hn hf hq).mono ?_
        rintro e w' ⟨rfl, ρ', r, c⟩
        exact ⟨rfl, ρ', _, .added hres hb hq, r, c⟩
      · refine (matchT4 cf ρ ep bid g mb bb fr s ps ns cs w hR hpb hv hG hbl h1 h3 hsig hmr hle hres hb hcn hn hf hq hbr (sgn_mem hsl) hql (fun x hx e => ?_)).mono ?_
        · have := key_ne s x.st ep cf.vw bid ⟨h1, h3⟩ (hqs x hx) e
          have k := hqc x hx
          rw [this] at k
          have := eq_of_beq hq
          omega
        rintro e w' ⟨rfl, ρ', q, e1, e2, r, c⟩
        exact ⟨rfl, ρ', _, .quorum hres hb hq q e1 e2, r, c⟩
    · refine (matchT2 cf ρ ep bid g mb bb fr s ps ns cs w hR hpb hv hG hbl h1 h3 hsig hmr hle hres hb).mono ?_
      rintro e w' ⟨rfl, ρ', r, c⟩
      exact ⟨rfl, ρ', _, .there hres hb, r, c⟩
end Go.Proofs.Ybulkcsck.Ga
