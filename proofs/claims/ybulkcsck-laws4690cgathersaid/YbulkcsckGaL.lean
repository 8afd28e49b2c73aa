/-
  OWN TEXT. LawS4690CGather: remember at any map.
-/
import Derived.Test.YbulkcsckGaK
namespace Go.Proofs.Ybulkcsck.Ga
open Go.RowKit

/-- what remember does -/
def RmP (ρ : Nat → Nat) (cf : Cf) (inV snV : Value) (ks : List ByteArray) (w : World) (e : Ending) (w' : World) : Prop :=
  e = .returned (.tuple #[]) ∧ ∃ ρ' C mV, Bk ρ' 1 w' cf.rb C 72 ∧ RC cf inV mV snV C ∧ Mp ρ' w' mV ks ∧ Chg ρ ρ' (fun r => r = 1 ∨ r = 17) w w'

theorem remember_any (ρ : Nat → Nat) (cf : Cf) (C : Array Value) (inV mV snV : Value) (ks : List ByteArray) (g c : Nat) (l : List Int) (p : Option Addr) (n q : Nat) (w : World) (hk : Bk ρ 1 w cf.rb C 72) (hr : RC cf inV mV snV C) (hm : Mp ρ w mV ks) (hs : strOfNums l ∉ ks) (hks : ks.length ≤ 10) (hl : l.length = 71)
    (hg : Rw ρ 18 5 1 w (.slice (some ⟨g, 0, none⟩) 71 c) 71 (u8s l)) :
    Calls Yba.prog 29 #[.pointer (some ⟨cf.rb, 108, none⟩), .slice (some ⟨g, 0, none⟩) 71 c, .slice p n q] w (RmP ρ cf inV snV (ks ++ [strOfNums l]) w) := by
  have hgc : ∀ j u, (u8s l)[j]? = some u → w.cell? ⟨g, j, none⟩ = some u := fun j u hj => by
    obtain ⟨g', cap, e, _, hc⟩ := hg.cell hj
    cases e
    exact hc
  have hgr : ρ g = 18 := by
    rcases hg.2 with ⟨h, _⟩ | ⟨g', cap, cur, h1, h2, _⟩
    · cases h
    · cases h1; exact h2
  rcases hm with ⟨rfl, rfl⟩ | ⟨mb, es, clk, rfl, hmr, hmb, hkeys⟩
  · refine (remember_none cf.rb g c l p n q w (hk.cell hr.m) (hk.fz 108) hl hgc (fun e => by have h1 := hk.r; rw [← e, hgr] at h1; cases h1)).mono ?_
    rintro e w' ⟨rfl, k, rfl⟩
    refine ⟨rfl, rx ρ w 17, C.setIfInBounds 108 (.map (some w.heap.size)), .map (some w.heap.size), ?_, hr.setM _, ?_, ?_⟩
    · have c1 : Chg ρ (rx ρ w 17) (fun _ => False) w (w.alloc (.map #[] 0)) := Chg.alloc w _ 17
      have hk1 := (hk.chg c1 (fun q => q)).set 108 (.map (some w.heap.size))
      refine ⟨?_, hk1.r⟩
      show (((w.alloc (.map #[] 0)).setCell ⟨cf.rb, 108, none⟩ (.map (some w.heap.size))).heap.setIfInBounds w.heap.size _)[cf.rb]? = _
      rw [Array.getElem?_setIfInBounds_ne (fun e => by have := hk.lt; omega)]
      exact hk1.h
    · refine .inr ⟨w.heap.size, #[{ key := .string (strOfNums l), val := .slice p n q, born := 0 }], 1, rfl, rx_new (Nat.le_refl _), ?_, ?_⟩
      · show (((w.alloc (.map #[] 0)).setCell ⟨cf.rb, 108, none⟩ (.map (some w.heap.size))).heap.setIfInBounds w.heap.size _)[w.heap.size]? = _
        rw [Array.getElem?_setIfInBounds_self_of_lt (by simp)]
      · rfl
    · refine ⟨rfl, rfl, rfl, by simp, fun i hi => rx_old hi, fun i hi hne => ?_⟩
      show (((w.alloc (.map #[] 0)).setCell ⟨cf.rb, 108, none⟩ (.map (some w.heap.size))).heap.setIfInBounds w.heap.size _)[i]? = _
      rw [Array.getElem?_setIfInBounds_ne (by omega), Below.heap_setCell _ _ _ _ (fun e => hne (.inl (by rw [e]; exact hk.r))), Below.heap_alloc _ _ _ hi]
  · have hz : es.size ≤ 10 := by
      have := congrArg List.length hkeys
      simp at this
      omega
    refine (remember_some cf.rb mb g c es clk ks l p n q w (hk.cell hr.m) hmb hkeys hs hz hl hgc).mono ?_
    rintro e w' ⟨rfl, k, rfl⟩
    have hne : mb ≠ cf.rb := fun e => by have := hk.r; rw [← e, hmr] at this; cases this
    refine ⟨rfl, ρ, C, .map (some mb), ⟨?_, hk.r⟩, hr, ?_, ⟨rfl, rfl, rfl, by simp, fun _ _ => rfl, fun i hi hn => ?_⟩⟩
    · show (w.heap.setIfInBounds mb _)[cf.rb]? = _
      rw [Array.getElem?_setIfInBounds_ne hne]
      exact hk.h
    · refine .inr ⟨mb, es.push { key := .string (strOfNums l), val := .slice p n q, born := clk }, clk + 1, rfl, hmr, ?_, ?_⟩
      · show (w.heap.setIfInBounds mb _)[mb]? = _
        rw [Array.getElem?_setIfInBounds_self_of_lt (Array.getElem?_eq_some_iff.1 hmb).1]
      · simp [hkeys]
    · show (w.heap.setIfInBounds mb _)[i]? = _
      rw [Array.getElem?_setIfInBounds_ne (fun e => hn (.inr (by rw [← e]; exact hmr)))]
end Go.Proofs.Ybulkcsck.Ga
