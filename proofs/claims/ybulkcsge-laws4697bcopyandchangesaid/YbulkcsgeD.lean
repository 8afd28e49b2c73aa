/-
  OWN TEXT. Hook.equal, whole; '==' on the timeout pointers.
-/
import Derived.Test.YbulkcsgeC1
import Derived.Test.YbulkcsgeC2
import Derived.Test.YbulkcsgeC3
import Derived.Test.YbulkcsgeC4
namespace Go.Proofs.Ybulkcsge
open Go.RowKit

/-- a hook as it reads: path, args (nil?, list), env (nil?, list), timeout -/
structure Hv where
  p : ByteArray
  n : Bool
  la : List ByteArray
  m : Bool
  le : List ByteArray
  x : Option Int

/-- a hook in memory -/
structure Hook (w : World) (b : Nat) (va ve : Value) (tp : Option Addr) (h : Hv) : Prop where
  k : Hk w b h.p va ve tp
  a : SV w va h.n h.la
  e : SV w ve h.m h.le
  t : TV w tp h.x
  l1 : h.la.length ≤ 2000
  l2 : h.le.length ≤ 2000
theorem Hook.below {w w' : World} {b : Nat} {va ve : Value} {tp : Option Addr} {h : Hv} (H : Hook w b va ve tp h) (hb : Below w.heap.size w w') : Hook w' b va ve tp h :=
  ⟨H.k.below hb, H.a.below hb, H.e.below hb, H.t.below hb, H.l1, H.l2⟩

theorem hook_equal {b b' : Nat} {va ve va' ve' : Value} {tp tp' : Option Addr} {h h' : Hv} {c : Bool} {w : World} (H : Hook w b va ve tp h) (H' : Hook w b' va' ve' tp' h') (hc : PE w tp tp' c) :
    Calls Yba.prog 5 #[.pointer (some ⟨b, 0, none⟩), .pointer (some ⟨b', 0, none⟩)] w (Ans w (h.p = h'.p ∧ (h.n = h'.n ∧ h.la = h'.la) ∧ (h.m = h'.m ∧ h.le = h'.le) ∧ h.x = h'.x)) := by
  by_cases hp : h.p = h'.p
  · by_cases hA : h.n = h'.n ∧ h.la = h'.la
    · by_cases hE : h.m = h'.m ∧ h.le = h'.le
      · exact hook_t b b' _ _ va ve va' ve' tp tp' _ _ _ _ _ _ _ _ _ _ c w H.k H'.k H.a H.e H'.a H'.e H.t H'.t hc H.l1 H.l2 hp hA hE
      · exact hook_e b b' _ _ va ve va' ve' tp tp' _ _ _ _ _ _ _ _ _ _ c w H.k H'.k H.a H.e H'.a H'.e H.t H'.t hc H.l1 H.l2 hp hA hE
    · exact hook_a b b' _ _ va ve va' ve' tp tp' _ _ _ _ _ _ _ _ _ _ c w H.k H'.k H.a H.e H'.a H'.e H.t H'.t hc H.l1 H.l2 hp hA
  · exact hook_p b b' _ _ va ve va' ve' tp tp' _ _ _ _ _ _ _ _ _ _ c w H.k H'.k H.a H.e H'.a H'.e H.t H'.t hc H.l1 H.l2 hp

theorem equal_yes {b b' : Nat} {va ve va' ve' : Value} {tp tp' : Option Addr} {h : Hv} {c : Bool} {w : World} (H : Hook w b va ve tp h) (H' : Hook w b' va' ve' tp' h) (hc : PE w tp tp' c) :
    Calls Yba.prog 5 #[.pointer (some ⟨b, 0, none⟩), .pointer (some ⟨b', 0, none⟩)] w fun e w' => e = .returned (.bool true) ∧ Below w.heap.size w w' :=
  (hook_equal H H' hc).mono fun e w' ⟨r, he, hr, hb⟩ => ⟨by rw [he, hr.2 ⟨rfl, ⟨rfl, rfl⟩, ⟨rfl, rfl⟩, rfl⟩], hb⟩
theorem equal_no {b b' : Nat} {va ve va' ve' : Value} {tp tp' : Option Addr} {h h' : Hv} {c : Bool} {w : World} (H : Hook w b va ve tp h) (H' : Hook w b' va' ve' tp' h') (hc : PE w tp tp' c) (hne : ¬ h = h') :
    Calls Yba.prog 5 #[.pointer (some ⟨b, 0, none⟩), .pointer (some ⟨b', 0, none⟩)] w fun e w' => e = .returned (.bool false) ∧ Below w.heap.size w w' :=
  (hook_equal H H' hc).mono fun e w' ⟨r, he, hr, hb⟩ => ⟨by
    cases r
    · exact he
    · obtain ⟨h1, ⟨h2, h3⟩, ⟨h4, h5⟩, h6⟩ := hr.1 rfl
      refine absurd ?_ hne
      cases h; cases h'
      simp_all, hb⟩

/-! ### '==' on pointers -/
theorem pe_of {w : World} {tp tp' : Option Addr} {c : Bool} (h1 : c = true → tp = tp') (h : ∀ w' : World, Below w.heap.size w w' → ∀ d : Nat, (Op.equalIn (d + 1) 23 (.pointer tp) (.pointer tp')).run Yba.prog w' = .ok c w') : PE w tp tp' c := by
  refine ⟨h1, fun w' hb => ?_⟩
  simp only [binOp]
  simp [Op.equal, Op.maxDepth, h w' hb 9999]
theorem inf3 : ∃ i, Yba.prog.info? 3 = some i ∧ i.size = 1 := by
  have h : (Yba.prog.info? 3).map (·.size) = some 1 := by kernel_rfl
  exact Option.map_eq_some_iff.1 h
theorem pe_same (w : World) (tp : Option Addr) : PE w tp tp true := by
  obtain ⟨i, hi, hz⟩ := inf3
  refine pe_of (fun _ => rfl) fun w' _ d => ?_
  cases tp with
  | none => simp [Op.equalIn, run_underlying Yba.underlying23]
  | some a => simp [Op.equalIn, run_underlying Yba.underlying23, sizeOf, typeInfo, hi, run_sameAddr_same]
theorem pe_nil_l (w : World) (a : Addr) : PE w none (some a) false := by
  refine pe_of (fun h => Bool.noConfusion h) fun w' _ d => ?_
  simp [Op.equalIn, run_underlying Yba.underlying23]
theorem pe_nil_r (w : World) (a : Addr) : PE w (some a) none false := by
  refine pe_of (fun h => Bool.noConfusion h) fun w' _ d => ?_
  simp [Op.equalIn, run_underlying Yba.underlying23]

/-- a pointer that came in, and one to a variable of the call's own -/
theorem sameAddr_own {w : World} {a : Addr} {g : Nat} {v : Value} {x : Value} {t : TypeId} (ha : w.cell? a = some v) (hg : w.heap[g]? = some (.cells #[x] t (0, 0))) (hne : a.block ≠ g) :
    (sameAddr a ⟨g, 0, none⟩).run Yba.prog w = .ok false w ∧ (sameAddr ⟨g, 0, none⟩ a).run Yba.prog w = .ok false w := by
  have hk : ∃ c t' fr, w.heap[a.block]? = some (.cells c t' fr) ∧ c.size ≠ 0 := by
    unfold World.cell? at ha
    split at ha
    · rename_i c t' fr h
      refine ⟨c, t', fr, h, fun h0 => ?_⟩
      split at ha
      · cases ha
      · rw [Array.getElem?_eq_none (by omega)] at ha
        cases ha
    · cases ha
  obtain ⟨c, t', fr, hc, hz⟩ := hk
  obtain ⟨lo, hi⟩ := fr
  have hne' : ¬ g = a.block := fun e => hne e.symm
  constructor
  · simp [sameAddr, hne, World.frozen?, hc, hg, noView, viewAt, World.shape?, mayBeOne, stringish, hz]
  · simp [sameAddr, hne', World.frozen?, hc, hg, noView, viewAt, World.shape?, mayBeOne, stringish, hz]
theorem pe_own {w : World} {b o g : Nat} {v : Value} {x : Value} {t : TypeId} (ha : w.cell? ⟨b, o, none⟩ = some v) (hb : b < w.heap.size) (hg : w.heap[g]? = some (.cells #[x] t (0, 0))) (hne : b ≠ g) :
    PE w (some ⟨b, o, none⟩) (some ⟨g, 0, none⟩) false ∧ PE w (some ⟨g, 0, none⟩) (some ⟨b, o, none⟩) false := by
  obtain ⟨i, hi, hz⟩ := inf3
  have key : ∀ w', Below w.heap.size w w' → _ := fun w' h => sameAddr_own (w := w') (a := ⟨b, o, none⟩) ((h.cell (p := ⟨b, o, none⟩) hb).trans ha) ((h.block g (Array.getElem?_eq_some_iff.1 hg).1).trans hg) hne
  constructor
  · refine pe_of (fun h => Bool.noConfusion h) fun w' h d => ?_
    simp [Op.equalIn, run_underlying Yba.underlying23, sizeOf, typeInfo, hi, hz, (key w' h).1]
  · refine pe_of (fun h => Bool.noConfusion h) fun w' h d => ?_
    simp [Op.equalIn, run_underlying Yba.underlying23, sizeOf, typeInfo, hi, hz, (key w' h).2]
end Go.Proofs.Ybulkcsge
