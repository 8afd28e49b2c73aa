/-
  OWN TEXT. LawS4690CGather: blocks and their roles; rows; what may have changed.
-/
import Derived.Test.YbulkcsckRows
import Derived.ArgAppend
import Derived.Below
import Derived.WalkKit
import Derived.WalkSpells
import Derived.Deep.MidRow
namespace Go.Proofs.Ybulkcsck.Ga
open Go.RowKit

def Hid (p : Prop) : Prop := p
theorem Hid.out {p : Prop} (h : Hid p) : p := h

/-- only blocks whose role is in R may have changed; the roles of old blocks stand -/
structure Chg (ρ ρ' : Nat → Nat) (R : Nat → Prop) (w w' : World) : Prop where
  os : w'.os = w.os
  tape : w'.tape = w.tape
  output : w'.output = w.output
  size : w.heap.size ≤ w'.heap.size
  ext : ∀ k, k < w.heap.size → ρ' k = ρ k
  block : ∀ k, k < w.heap.size → ¬ R (ρ k) → w'.heap[k]? = w.heap[k]?

theorem Chg.refl (ρ : Nat → Nat) (R : Nat → Prop) (w : World) : Chg ρ ρ R w w := ⟨rfl, rfl, rfl, Nat.le_refl _, fun _ _ => rfl, fun _ _ _ => rfl⟩
theorem Chg.trans {ρ ρ' ρ'' : Nat → Nat} {R : Nat → Prop} {w w' w'' : World} (h : Chg ρ ρ' R w w') (k : Chg ρ' ρ'' R w' w'') : Chg ρ ρ'' R w w'' :=
  ⟨k.os.trans h.os, k.tape.trans h.tape, k.output.trans h.output, Nat.le_trans h.size k.size, fun i hi => (k.ext i (Nat.lt_of_lt_of_le hi h.size)).trans (h.ext i hi),
    fun i hi hr => (k.block i (Nat.lt_of_lt_of_le hi h.size) (by rw [h.ext i hi]; exact hr)).trans (h.block i hi hr)⟩
theorem Chg.mono {ρ ρ' : Nat → Nat} {R R' : Nat → Prop} {w w' : World} (h : Chg ρ ρ' R w w') (hR : ∀ r, R r → R' r) : Chg ρ ρ' R' w w' :=
  ⟨h.os, h.tape, h.output, h.size, h.ext, fun k hk hr => h.block k hk (fun q => hr (hR _ q))⟩
/-- new blocks get role r -/
def rx (ρ : Nat → Nat) (w : World) (r : Nat) : Nat → Nat := fun k => if k < w.heap.size then ρ k else r
theorem rx_old {ρ : Nat → Nat} {w : World} {r k : Nat} (h : k < w.heap.size) : rx ρ w r k = ρ k := if_pos h
theorem rx_new {ρ : Nat → Nat} {w : World} {r k : Nat} (h : w.heap.size ≤ k) : rx ρ w r k = r := if_neg (by omega)
theorem Chg.of_below {ρ : Nat → Nat} {R : Nat → Prop} {w w' : World} (h : Below w.heap.size w w') (r : Nat) : Chg ρ (rx ρ w r) R w w' :=
  ⟨h.os, h.tape, h.output, h.size, fun _ hk => rx_old hk, fun k hk _ => h.block k hk⟩
theorem Chg.setCell {ρ : Nat → Nat} {R : Nat → Prop} (w : World) (b i : Nat) (v : Value) (h : R (ρ b)) : Chg ρ ρ R w (w.setCell ⟨b, i, none⟩ v) :=
  ⟨rfl, rfl, rfl, by simp [World.setCell], fun _ _ => rfl, fun k hk hr => Below.heap_setCell _ _ _ _ (fun e => hr (by rw [e]; exact h))⟩
theorem Chg.alloc {ρ : Nat → Nat} {R : Nat → Prop} (w : World) (o : Obj) (r : Nat) : Chg ρ (rx ρ w r) R w (w.alloc o) :=
  Chg.of_below ((Below.refl _ w).alloc (Nat.le_refl _) o) r
theorem Chg.drew {ρ : Nat → Nat} {R : Nat → Prop} (w : World) : Chg ρ ρ R w w.drew := ⟨rfl, rfl, rfl, Nat.le_refl _, fun _ _ => rfl, fun _ _ _ => rfl⟩
/-- the arguments' blocks: role 0 -/
theorem Chg.below {ρ ρ' : Nat → Nat} {R : Nat → Prop} {w w' : World} {B : Nat} (h : Chg ρ ρ' R w w') (hB : B ≤ w.heap.size) (h0 : ∀ k, k < B → ¬ R (ρ k)) : Below B w w' :=
  ⟨h.os, h.tape, h.output, h.size, fun k hk => h.block k (by omega) (h0 k hk)⟩

/-- a block of role r that holds c -/
structure Bk (ρ : Nat → Nat) (r : Nat) (w : World) (b : Nat) (c : Array Value) (t : TypeId) : Prop where
  h : w.heap[b]? = some (.cells c t (0, 0))
  r : ρ b = r
theorem Bk.lt {ρ : Nat → Nat} {r b : Nat} {w : World} {c : Array Value} {t : TypeId} (k : Bk ρ r w b c t) : b < w.heap.size := (Array.getElem?_eq_some_iff.1 k.h).1
theorem Bk.chg {ρ ρ' : Nat → Nat} {R : Nat → Prop} {r b : Nat} {w w' : World} {c : Array Value} {t : TypeId} (k : Bk ρ r w b c t) (h : Chg ρ ρ' R w w') (hr : ¬ R r) : Bk ρ' r w' b c t :=
  ⟨(h.block b k.lt (by rw [k.r]; exact hr)).trans k.h, (h.ext b k.lt).trans k.r⟩
theorem Bk.cell {ρ : Nat → Nat} {r b : Nat} {w : World} {c : Array Value} {t : TypeId} (k : Bk ρ r w b c t) {i : Nat} {v : Value} (hv : c[i]? = some v) : w.cell? ⟨b, i, none⟩ = some v := by
  simp [World.cell?, k.h, hv]
theorem Bk.fz {ρ : Nat → Nat} {r b : Nat} {w : World} {c : Array Value} {t : TypeId} (k : Bk ρ r w b c t) (i : Nat) : w.frozen? ⟨b, i, none⟩ = false := by
  simp [World.frozen?, k.h]
theorem Bk.set {ρ : Nat → Nat} {r b : Nat} {w : World} {c : Array Value} {t : TypeId} (k : Bk ρ r w b c t) (i : Nat) (v : Value) : Bk ρ r (w.setCell ⟨b, i, none⟩ v) b (c.setIfInBounds i v) t :=
  ⟨by simp [World.setCell, Array.getElem?_modify, k.h], k.r⟩
theorem Bk.new (ρ : Nat → Nat) (w : World) (c : Array Value) (t : TypeId) (r : Nat) : Bk (rx ρ w r) r (w.alloc (.cells c t)) w.heap.size c t :=
  ⟨heap_alloc_new w _, rx_new (Nat.le_refl _)⟩

theorem setCells_chg {ρ : Nat → Nat} {R : Nat → Prop} {b : Nat} (h : R (ρ b)) : ∀ (vs : List Value) (o : Nat) (w : World), Chg ρ ρ R w (w.setCells b o vs)
  | [], _, w => Chg.refl ρ R w
  | v :: vs, o, w => (Chg.setCell w b o v h).trans (setCells_chg h vs (o + 1) _)
theorem setCells_blk {b : Nat} {t : TypeId} {f : Nat × Nat} : ∀ (vs : List Value) (o : Nat) (w : World) (cur : Array Value), w.heap[b]? = some (.cells cur t f) → o + vs.length ≤ cur.size →
    ∃ c', (w.setCells b o vs).heap[b]? = some (.cells c' t f) ∧ c'.size = cur.size ∧ c'.toList.take (o + vs.length) = cur.toList.take o ++ vs
  | [], o, w, cur, h, _ => ⟨cur, h, rfl, by simp⟩
  | v :: vs, o, w, cur, h, hl => by
    simp only [List.length_cons] at hl
    have hb : (w.setCell ⟨b, o, none⟩ v).heap[b]? = some (.cells (cur.setIfInBounds o v) t f) := by simp [World.setCell, Array.getElem?_modify, h]
    obtain ⟨c', h1, h2, h3⟩ := setCells_blk vs (o + 1) (w.setCell ⟨b, o, none⟩ v) (cur.setIfInBounds o v) hb (by simp; omega)
    refine ⟨c', h1, by simpa using h2, ?_⟩
    have e : o + (v :: vs).length = o + 1 + vs.length := by simp; omega
    rw [e, h3]
    have e2 : (cur.setIfInBounds o v).toList.take (o + 1) = cur.toList.take o ++ [v] := by
      have ho : o < cur.toList.length := by simp; omega
      rw [Array.toList_setIfInBounds, List.take_add_one, List.take_set_of_le (Nat.le_refl _), List.getElem?_set_self ho]
      rfl
    rw [e2, List.append_assoc]
    rfl

/-- a slice of n elements of sz cells each, xs, in a row of role r -/
def Rw (ρ : Nat → Nat) (r : Nat) (e : TypeId) (sz : Nat) (w : World) (v : Value) (n : Nat) (xs : List Value) : Prop :=
  xs.length = n * sz ∧ ((v = .slice none 0 0 ∧ n = 0) ∨ ∃ g cap cur, v = .slice (some ⟨g, 0, none⟩) n cap ∧ ρ g = r ∧ w.heap[g]? = some (.cells cur e (0, 0)) ∧ n ≤ cap ∧ cap ≤ maxLen ∧ cur.size = cap * sz ∧ cur.toList.take (n * sz) = xs)
section
variable {ρ ρ' : Nat → Nat} {R : Nat → Prop} {r : Nat} {e : TypeId} {sz : Nat} {w w' : World} {v : Value} {n : Nat} {xs : List Value}
theorem Rw.nil (ρ : Nat → Nat) (r : Nat) (e : TypeId) (sz : Nat) (w : World) : Rw ρ r e sz w (.slice none 0 0) 0 [] := ⟨by simp, .inl ⟨rfl, rfl⟩⟩
theorem Rw.shape (h : Rw ρ r e sz w v n xs) : ∃ p c, v = .slice p n c := by
  rcases h.2 with ⟨rfl, rfl⟩ | ⟨g, cap, cur, rfl, _⟩
  · exact ⟨_, _, rfl⟩
  · exact ⟨_, _, rfl⟩
theorem Rw.chg (h : Rw ρ r e sz w v n xs) (k : Chg ρ ρ' R w w') (hr : ¬ R r) : Rw ρ' r e sz w' v n xs := by
  refine ⟨h.1, ?_⟩
  rcases h.2 with h | ⟨g, cap, cur, h1, h2, h3, h4⟩
  · exact .inl h
  · have hlt := (Array.getElem?_eq_some_iff.1 h3).1
    exact .inr ⟨g, cap, cur, h1, (k.ext g hlt).trans h2, (k.block g hlt (by rw [h2]; exact hr)).trans h3, h4⟩
/-- element i's cells -/
theorem Rw.cell (h : Rw ρ r e sz w v n xs) {j : Nat} {u : Value} (hj : xs[j]? = some u) : ∃ g cap, v = .slice (some ⟨g, 0, none⟩) n cap ∧ n ≤ cap ∧ w.cell? ⟨g, j, none⟩ = some u := by
  have hl := (List.getElem?_eq_some_iff.1 hj).1
  rcases h.2 with ⟨_, h0⟩ | ⟨g, cap, cur, h1, h2, h3, h4, h5, h6, h7⟩
  · have := h.1; rw [h0] at this; omega
  · refine ⟨g, cap, h1, h4, ?_⟩
    rw [← h7, List.getElem?_take] at hj
    split at hj
    · simpa [World.cell?, h3] using hj
    · cases hj

set_option maxHeartbeats 800000 in
/-- append of one element -/
theorem Rw.append {P : Program} (h : Rw ρ r e sz w v n xs) (t ty : TypeId) (i : TypeInfo) (z : Value) (bytes : Nat) (ht : P.underlying t = some (.slice e)) (hi : P.info? e = some i) (hz : i.zero = some z)
    (hsize : i.size = sz) (hby : i.bytes = bytes) (hzs : z.cells.size = sz) (hsz : 0 < sz) (ad : Addr) (c : Nat) (us : List Value) (hus : us.length = sz) (hu : ∀ j u, us[j]? = some u → w.cell? (ad.add j) = some u) (h1 : ∀ u ∈ us, u.oneCell' = true)
    (hlen : n + 1 ≤ maxLen) (hb : (n + 1) * bytes ≤ 140737488355328) :
    ∃ v' w' ρ', (Builtin.append_ #[t, t] ty #[v, .slice (some ad) 1 c]).run P w = .ok v' w' ∧ Rw ρ' r e sz w' v' (n + 1) (xs ++ us) ∧ Chg ρ ρ' (· = r) w w' := by
  obtain ⟨hx, h⟩ := h
  have hxs : (xs ++ us).length = (n + 1) * sz := by rw [List.length_append, hx, hus, Nat.add_mul, Nat.one_mul]
  rcases h with ⟨rfl, rfl⟩ | ⟨g, cap, cur, rfl, h2, h3, h4, h5, h6, h7⟩
  · have e0 : xs = [] := List.length_eq_zero_iff.1 (by simpa using hx)
    subst e0
    obtain ⟨v', w', hr, hown, hg, _⟩ := run_append_own (P := P) w w.heap.size t ty e i z sz bytes ht hi hz hsize hby hzs hsz (.slice none 0 0) 0 [] (World.ownsRow_nil _ _ _ _) ad 1 c us (by simpa using hus) hu h1 hlen hb (Nat.le_refl _)
    refine ⟨v', w', rx ρ w r, hr, ⟨hxs, ?_⟩, ⟨hg.os, hg.tape, hg.output, hg.size, fun _ hk => rx_old hk, fun k hk _ => hg.block k hk (by simp [Value.ownBlock])⟩⟩
    rcases hown.2 with ⟨_, hh⟩ | ⟨g, cap, cur, q1, q2, q3, q4, q5, q6, q7⟩
    · omega
    · exact .inr ⟨g, cap, cur, q1, rx_new q2, q3, q4, q5, q6, q7⟩
  · by_cases hroom : n + 1 ≤ cap
    · have hin : ∀ j, j < us.length → n * sz + j < cur.size := fun j hj => by
        rw [h6]
        have : (n + 1) * sz ≤ cap * sz := Nat.mul_le_mul_right _ hroom
        rw [Nat.add_mul, Nat.one_mul] at this
        omega
      have hr := run_append_room_cells (P := P) w t ty e i ht hi g 0 n cap ad 1 c us (by rw [hus, hsize, Nat.one_mul]) hu h1 hroom
        (fun j hj => by simp only [World.cell?, h3, hsize, Nat.zero_add]; simp [hin j hj])
        (fun j hj => by simp [World.frozen?, h3])
      simp only [hsize, Nat.zero_add] at hr
      have hle : n * sz + us.length ≤ cur.size := by
        rw [h6, hus]
        have : (n + 1) * sz ≤ cap * sz := Nat.mul_le_mul_right _ hroom
        rw [Nat.add_mul, Nat.one_mul] at this
        omega
      obtain ⟨c', hc', hsz', htk⟩ := setCells_blk us (n * sz) w cur h3 hle
      rw [h7, hus, show n * sz + sz = (n + 1) * sz by rw [Nat.add_mul, Nat.one_mul]] at htk
      refine ⟨_, _, ρ, hr, ⟨hxs, .inr ⟨g, cap, c', rfl, h2, hc', hroom, h5, by rw [hsz', h6], htk⟩⟩, ?_⟩
      exact setCells_chg h2 us _ w
    · have hadd : ∀ j, (⟨g, 0, none⟩ : Addr).add j = ⟨g, j, none⟩ := fun j => by unfold Addr.add; split <;> simp_all
      obtain ⟨v', w', hr, hown, hg⟩ := run_append_arg_grows (P := P) w t ty e i z sz bytes ht hi hz hsize hby hzs hsz ⟨g, 0, none⟩ n cap xs hx
        (fun j y hj => by
          rw [← h7, List.getElem?_take] at hj
          split at hj
          · rw [hadd, World.cell?, h3]
            simpa using hj
          · cases hj)
        ad 1 c us (by rw [hus, Nat.one_mul]) hu (by omega) hlen hb
      refine ⟨v', w', rx ρ w r, hr, ⟨hxs, ?_⟩, ⟨hg.os, hg.tape, hg.output, hg.size, fun _ hk => rx_old hk, fun k hk _ => hg.block k hk (by simp)⟩⟩
      rcases hown.2 with ⟨_, hh⟩ | ⟨g, cap, cur, q1, q2, q3, q4, q5, q6, q7⟩
      · omega
      · exact .inr ⟨g, cap, cur, q1, rx_new q2, q3, q4, q5, q6, q7⟩
end
end Go.Proofs.Ybulkcsck.Ga
