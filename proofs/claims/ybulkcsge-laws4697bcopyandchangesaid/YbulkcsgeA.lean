/-
  OWN TEXT. LawS4697BCopyAndChange: slices of strings as lists; slices.Equal, the hook's sameList.
-/
import Derived.Test.YbulkcsgeRows
import Derived.WalkKit
import Derived.WalkSpells
import Derived.Below
import Derived.BigQuiet
import Derived.Deep.MidRow
import Derived.Deep.RegionHeld3
import Derived.Lib.SliceRun
import Derived.Laws.Cover3
namespace Go.Proofs.Ybulkcsge
open Go.RowKit

def Hid (p : Prop) : Prop := p
theorem Hid.out {p : Prop} (h : Hid p) : p := h

theorem str_ne {x y : ByteArray} (h : ¬ x = y) : (x.toList == y.toList) = false := by
  refine Bool.eq_false_iff.2 fun e => h ?_
  have e := eq_of_beq e
  rw [ByteArray.toList_eq, ByteArray.toList_eq] at e
  exact ByteArray.ext (Array.ext' e)
theorem drewN_below {B : Nat} {a w : World} (h : Below B a w) (n : Nat) : Below B a (w.drewN n) := h.trans ⟨rfl, rfl, rfl, Nat.le_refl _, fun _ _ => rfl⟩

/-- v, in world w, is nil or not, and reads as the list l of strings -/
inductive SV (w : World) : Value → Bool → List ByteArray → Prop
  | nil : SV w (.slice none 0 0) true []
  | empty (a : Addr) (c : Nat) : SV w (.slice (some a) 0 c) false []
  | some (b o c : Nat) (l : List ByteArray) (hr : w.rangeAt b o (l.map Value.string)) (hb : b < w.heap.size) : SV w (.slice (Option.some ⟨b, o, none⟩) l.length c) false l

theorem range_below {B : Nat} {w w' : World} (hb : Below B w w') {b o : Nat} {l : List Value} (hB : b < B) (h : w.rangeAt b o l) : w'.rangeAt b o l :=
  fun j v hv => (hb.cell (p := ⟨b, o + j, none⟩) hB).trans (h j v hv)
theorem SV.below {w w' : World} {v : Value} {n : Bool} {l : List ByteArray} (h : SV w v n l) (hb : Below w.heap.size w w') : SV w' v n l := by
  cases h with
  | nil => exact .nil
  | empty a c => exact .empty a c
  | some b o c l hr hl => exact .some b o c l (range_below hb hl hr) (Nat.lt_of_lt_of_le hl hb.size)
theorem SV.isNil {w : World} {v : Value} {l : List ByteArray} (h : SV w v true l) : v = .slice none 0 0 ∧ l = [] := by cases h; exact ⟨rfl, rfl⟩

/-- the answer of a test -/
def Ans (w : World) (A : Prop) (e : Ending) (w' : World) : Prop := ∃ r : Bool, e = .returned (.bool r) ∧ (r = true ↔ A) ∧ Below w.heap.size w w'
theorem Ans.yes {w w' : World} {A : Prop} (h : A) (hb : Below w.heap.size w w') : Ans w A (.returned (.bool true)) w' := ⟨true, rfl, ⟨fun _ => h, fun _ => rfl⟩, hb⟩
theorem Ans.no {w w' : World} {A : Prop} (h : ¬ A) (hb : Below w.heap.size w w') : Ans w A (.returned (.bool false)) w' := ⟨false, rfl, ⟨fun h => (Bool.noConfusion h), fun k => absurd k h⟩, hb⟩

set_option maxRecDepth 100000 in
set_option maxHeartbeats 800000 in
/-- slices.Equal, two lists of one length, each in a row -/
theorem equal_rows (b o c b' o' c' n : Nat) (l l' : List ByteArray) (w : World) (hn : n ≤ 2000) (h1 : l.length = n) (h2 : l'.length = n) (hr : w.rangeAt b o (l.map Value.string)) (hr' : w.rangeAt b' o' (l'.map Value.string)) (hb : b < w.heap.size) (hb' : b' < w.heap.size) :
    Calls Yba.prog 9 #[.slice (some ⟨b, o, none⟩) n c, .slice (some ⟨b', o', none⟩) n c'] w (Ans w (l = l')) := by
  have H1 : Hid (l.length = n) := h1
  have H2 : Hid (l'.length = n) := h2
  have R1 : Hid (w.rangeAt b o (l.map Value.string)) := hr
  have R2 : Hid (w.rangeAt b' o' (l'.map Value.string)) := hr'
  clear h1 h2 hr hr'
  go_enter Yba.func9, Yba.ntmps9
  go_wp2
  go_loopw [5, 13] (fun s5 s13 wr => ∃ j : Nat, j ≤ n ∧ s13 = .int .i64 j ∧ (∀ i, i < j → l[i]? = l'[i]?) ∧ Below w.heap.size w wr) (fun _ i _ => n - (intOf i).toNat)
  case atStart => exact ⟨0, Nat.zero_le _, rfl, fun i h => absurd h (by omega), Below.refl _ _⟩
  case round =>
    obtain ⟨j, hj, rfl, hp, bel⟩ := hrel
    by_cases hlt : j < n
    · obtain ⟨x, ex⟩ : ∃ v, l[j]? = some v := ⟨l[j]'(by have := H1.out; omega), List.getElem?_eq_getElem _⟩
      obtain ⟨y, ey⟩ : ∃ v, l'[j]? = some v := ⟨l'[j]'(by have := H2.out; omega), List.getElem?_eq_getElem _⟩
      have ca : wr.cell? ⟨b, o + j, none⟩ = some (.string x) := (bel.cell (p := ⟨b, o + j, none⟩) hb).trans (R1.out j _ (by simp [ex]))
      have cb : wr.cell? ⟨b', o' + j, none⟩ = some (.string y) := (bel.cell (p := ⟨b', o' + j, none⟩) hb').trans (R2.out j _ (by simp [ey]))
      have hlt' : (j : Int) < (n : Int) := by omega
      have BE : Hid (Below w.heap.size w wr) := bel
      have HP : Hid (∀ i, i < j → l[i]? = l'[i]?) := hp
      have EX : Hid (l[j]? = some x) := ex
      have EY : Hid (l'[j]? = some y) := ey
      clear hp bel ex ey
      by_cases hxy : x = y
      · subst hxy
        go_wp2
        go_quiet (fail)
        go_wp2
        refine ⟨⟨j + 1, by omega, by simp, ?_, (drewN_below BE.out _)⟩, ?_⟩
        · intro i hi
          by_cases hij : i = j
          · subst hij; rw [EX.out, EY.out]
          · exact HP.out i (by omega)
        · simp [intOf]
          omega
      · have hne := str_ne hxy
        go_wp2
        go_quiet (fail)
        go_wp2
        go_ret
        exact Ans.no (fun h => hxy (by have := EX.out; rw [h, EY.out] at this; exact (Option.some.inj this).symm)) (drewN_below BE.out _)
    · have ej : j = n := by omega
      subst ej
      have HP : Hid (∀ i, i < j → l[i]? = l'[i]?) := hp
      clear hp
      go_wp2
      go_ret
      refine Ans.yes (List.ext_getElem? fun i => ?_) bel
      by_cases hi : i < j
      · exact HP.out i hi
      · rw [List.getElem?_eq_none (by have := H1.out; omega), List.getElem?_eq_none (by have := H2.out; omega)]
end Go.Proofs.Ybulkcsge
