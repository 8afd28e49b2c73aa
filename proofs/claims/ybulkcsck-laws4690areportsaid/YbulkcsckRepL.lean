/-
  OWN TEXT. LawS4690AReport: what the law has laid in memory.
-/
import Derived.Test.YbulkcsckRepK
namespace Go.Proofs.Ybulkcsck
open Go.RowKit

theorem bit_at (m z : Int) (i : Nat) (hz : z = i) (h : i ≤ 32) (w : World) :
    Calls Yba.prog 7 #[.int .u32 m, .int .u64 z] w fun e w' => e = .returned (.bool (bitB m i)) ∧ w' = w := by
  subst hz; exact bit_any m i w h
def dropS : Nat → Code → Code
  | 0, c => c
  | n + 1, .seq _ y => dropS n y
  | _ + 1, c => c

/-- d, exp, rep and keep where the law has laid them -/
structure Mid (w0 : World) (n kb : Nat) (d : Dt) (m : Int) (rep : St) (w : World) : Prop where
  rd : w.rangeAt n 0 d.L
  re : w.rangeAt (n + 1) 0 (repS d m 0).L
  rr : w.rangeAt (n + 1 + 1) 0 rep.L
  rk : w.rangeAt kb 0 rep.L
  kb : kb < w.heap.size
  sz : n + 3 ≤ w.heap.size
  bl : Below n w0 w
theorem Mid.below {w0 : World} {n kb : Nat} {d : Dt} {m : Int} {rep : St} {w w' : World} (h : Mid w0 n kb d m rep w) (hb : Below w.heap.size w w') : Mid w0 n kb d m rep w' := by
  have h1 := h.sz
  have h2 := hb.size
  exact ⟨rangeAt_below hb (by omega) h.rd, rangeAt_below hb (by omega) h.re, rangeAt_below hb (by omega) h.rr, rangeAt_below hb h.kb h.rk, Nat.lt_of_lt_of_le h.kb h2, by omega, h.bl.trans (hb.mono (by omega))⟩
theorem Mid.elk {w0 : World} {n kb : Nat} {d : Dt} {m : Int} {rep : St} {w : World} (h : Mid w0 n kb d m rep w) : w.rangeAt (n + 1) 9 (repS d m 0).lk.L := by
  have := St.rlk _ h.re; rw [Nat.zero_add] at this; exact this
theorem Mid.ehq {w0 : World} {n kb : Nat} {d : Dt} {m : Int} {rep : St} {w : World} (h : Mid w0 n kb d m rep w) : w.rangeAt (n + 1) 46 (repS d m 0).hq.L := by
  have := St.rhq _ (repS_ok d m 0) h.re; rw [Nat.zero_add] at this; exact this

/-- .. and the replica -/
structure Lay (w0 : World) (n kb : Nat) (d : Dt) (m : Int) (rep rpt : St) (rb tb : Nat) (w : World) : Prop where
  mid : Mid w0 n kb d m rep w
  rp : w.rangeAt rb 0 (rpL d m tb (bitB m 20) rpt)
  tp : w.rangeAt tb 0 (tipL d.tp)
  rb1 : n + 3 ≤ rb
  rb2 : rb < w.heap.size
  rb3 : kb < rb
  tb2 : tb < w.heap.size
  th : w.there rb 115 114
  tr : tb < rb
theorem there_new (w : World) (l : List Value) (t : TypeId) (o k : Nat) (h : o + k ≤ l.length) : (w.alloc (.cells l.toArray t)).there w.heap.size o k := by
  intro j hj
  have hl : o + j < l.length := by omega
  refine ⟨?_, ?_⟩
  · simp [go_sem, hl]
  · exact frozen_of_row _ _ _ _ _ (heap_alloc_new w _)
theorem Lay.start {w0 : World} {n kb : Nat} {d : Dt} {m : Int} {rep : St} {w : World} (h : Mid w0 n kb d m rep w) (hrep : rep.Ok) :
    Lay w0 n kb d m rep rep (w.heap.size + 1) w.heap.size ((w.alloc (.cells (tipL d.tp).toArray 44)).alloc (.cells (rpL d m w.heap.size (bitB m 20) rep).toArray 72)) := by
  have hb1 : Below w.heap.size w (w.alloc (.cells (tipL d.tp).toArray 44)) := (Below.refl _ _).alloc (Nat.le_refl _) _
  have m1 := h.below hb1
  have hb2 : Below (w.alloc (.cells (tipL d.tp).toArray 44)).heap.size (w.alloc (.cells (tipL d.tp).toArray 44)) ((w.alloc (.cells (tipL d.tp).toArray 44)).alloc (.cells (rpL d m w.heap.size (bitB m 20) rep).toArray 72)) := (Below.refl _ _).alloc (Nat.le_refl _) _
  have r1 := rangeAt_new (w.alloc (.cells (tipL d.tp).toArray 44)) (rpL d m w.heap.size (bitB m 20) rep) 72
  have hlen : (rpL d m w.heap.size (bitB m 20) rep).length = 229 := by
    have := rep.len hrep
    simp only [rpL, List.length_append, this]
    rfl
  have r2 := there_new (w.alloc (.cells (tipL d.tp).toArray 44)) (rpL d m w.heap.size (bitB m 20) rep) 72 115 114 (by rw [hlen]; decide)
  rw [World.size_alloc] at r1 r2
  have := h.sz
  have := h.kb
  exact ⟨m1.below hb2, r1, rangeAt_below hb2 (by simp) (rangeAt_new w _ _), by omega, by simp, by omega, by simp; omega, r2, by omega⟩

theorem Lay.below {w0 : World} {n kb : Nat} {d : Dt} {m : Int} {rep rpt : St} {rb tb : Nat} {w w' : World} (h : Lay w0 n kb d m rep rpt rb tb w) (hb : Below w.heap.size w w') : Lay w0 n kb d m rep rpt rb tb w' := by
  have h2 := hb.size
  exact ⟨h.mid.below hb, rangeAt_below hb h.rb2 h.rp, rangeAt_below hb h.tb2 h.tp, h.rb1, Nat.lt_of_lt_of_le h.rb2 h2, h.rb3, Nat.lt_of_lt_of_le h.tb2 h2, fun j hj => by
    have := h.th j hj
    rw [hb.cell (p := ⟨rb, 115 + j, none⟩) h.rb2, hb.frozen (p := ⟨rb, 115 + j, none⟩) h.rb2]
    exact this, h.tr⟩

theorem rangeAt_append {w : World} {b o : Nat} {l k : List Value} (h1 : w.rangeAt b o l) (n : Nat) (hn : n = o + l.length) (h2 : w.rangeAt b n k) : w.rangeAt b o (l ++ k) := by
  subst hn
  intro j v hv
  rcases Nat.lt_or_ge j l.length with hj | hj
  · rw [List.getElem?_append_left hj] at hv
    exact h1 j v hv
  · rw [List.getElem?_append_right hj] at hv
    have := h2 (j - l.length) v hv
    rw [show o + l.length + (j - l.length) = o + j from by omega] at this
    exact this
theorem rangeAt_left {w : World} {b o : Nat} {l k : List Value} (h : w.rangeAt b o (l ++ k)) : w.rangeAt b o l := fun j v hv =>
  h j v (by rw [List.getElem?_append_left (List.getElem?_eq_some_iff.1 hv).1]; exact hv)

def rpre (d : Dt) (m : Int) (tb : Nat) (b : Bool) : List Value :=
  rp0 d ++ ((repS d m 0).hq.L ++ ((repS d m 0).lk.L ++ (rp3 d tb ++ (rp4 b ++ ([.bool d.v0, .bool d.v1, .bool d.v2] ++ rp5)))))
theorem rpL_eq (d : Dt) (m : Int) (tb : Nat) (b : Bool) (s : St) : rpL d m tb b s = rpre d m tb b ++ s.L := by
  simp only [rpL, rpre, List.append_assoc, List.append_nil]

/-- behind 'r.reported = s' -/
theorem Lay.store {w0 : World} {n kb : Nat} {d : Dt} {m : Int} {rep rpt : St} {rb tb : Nat} {w : World} (h : Lay w0 n kb d m rep rpt rb tb w) (s : St) (hs : s.Ok) :
    Lay w0 n kb d m rep s rb tb (w.setCells rb 115 s.L) := by
  have hsz : ∀ (l : List Value) (o : Nat) (w : World), (w.setCells rb o l).heap.size = w.heap.size := by
    intro l
    induction l with
    | nil => intro o w; rfl
    | cons v l ih => intro o w; rw [World.setCells, ih]; simp [World.setCell]
  have hth : w.there rb 115 s.L.length := by rw [s.len hs]; exact h.th
  have hpre : w.rangeAt rb 0 (rpre d m tb (bitB m 20)) := by have := h.rp; rw [rpL_eq] at this; exact rangeAt_left this
  have hl : (rpre d m tb (bitB m 20)).length = 115 := by kernel_rfl
  have hbl : Below rb w (w.setCells rb 115 s.L) := by
    have key : ∀ (l : List Value) (o : Nat) (w' : World), Below rb w w' → Below rb w (w'.setCells rb o l) := by
      intro l
      induction l with
      | nil => intro o w' h; exact h
      | cons v l ih => intro o w' h; rw [World.setCells]; exact ih _ _ (h.setCell (Nat.le_refl _) _)
    exact key _ _ _ (Below.refl _ _)
  have htb : tb ≠ rb := Nat.ne_of_lt h.tr
  have hn := h.rb1
  have hm := h.mid
  have hk := h.rb3
  refine ⟨⟨rangeAt_below hbl (by omega) hm.rd, rangeAt_below hbl (by omega) hm.re, rangeAt_below hbl (by omega) hm.rr, rangeAt_below hbl hk hm.rk, by rw [hsz]; exact hm.kb, by rw [hsz]; exact hm.sz, hm.bl.trans (hbl.mono (by omega))⟩, ?_, ?_, h.rb1, by rw [hsz]; exact h.rb2, h.rb3, by rw [hsz]; exact h.tb2, World.there_setCells h.th _ _ _, h.tr⟩
  · rw [rpL_eq]
    exact rangeAt_append (World.rangeAt_setCells_apart hpre _ _ _ (.inr (.inl (by rw [hl]; decide)))) 115 (by rw [hl]) (World.rangeAt_setCells_same _ _ _ _ hth)
  · exact World.rangeAt_setCells_apart h.tp _ _ _ (.inl htb)
end Go.Proofs.Ybulkcsck
