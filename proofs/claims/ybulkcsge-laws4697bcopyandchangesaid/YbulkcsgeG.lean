/-
  OWN TEXT. LawS4697BCopyAndChange (func 4), walked.
-/
import Derived.Test.YbulkcsgeF
namespace Go.Proofs.Ybulkcsge
open Go.RowKit

set_option maxRecDepth 100000 in
set_option maxHeartbeats 1600000 in
theorem law_nil (p : ByteArray) (q q' : Option Addr) (c c' : Nat) (n m : Bool) (la le : List ByteArray) (sel k : Int) (w : World)
    (ha : SV w (.slice q la.length c) n la) (he : SV w (.slice q' le.length c') m le) (h1 : la.length ≤ 1024) (h2 : le.length ≤ 1024) (hp : p.size ≤ 1000000000000000) (hs : 0 ≤ sel ∧ sel ≤ 255) :
    Calls Yba.prog 4 #[.string p, .slice q la.length c, .slice q' le.length c', .pointer (none), .int .u8 sel, .int .i64 k] w fun e w' => e = .returned (.bool true) ∧ Below w.heap.size w w' := by
  have k1 : ¬ (1024 : Int) < (la.length : Int) := by omega
  have k2 : ¬ (1024 : Int) < (le.length : Int) := by omega
  have L1 : Hid (la.length ≤ 1024) := h1
  have L2 : Hid (le.length ≤ 1024) := h2
  have SA : Hid (SV w (.slice q la.length c) n la) := ha
  have SE : Hid (SV w (.slice q' le.length c') m le) := he
  have ST : Hid (TV w (none) (none)) := .none
  clear ha he h1 h2
  generalize la.length = N at SA k1 ⊢
  generalize le.length = M at SE k2 ⊢
  go_enter Yba.func4, Yba.ntmps4
  go_upto_region 4 with fail
  have b1 : Hid (Below w.heap.size w (w.alloc (.cells #[.string p, .slice q N c, .slice q' M c', .pointer (none)] 25))) := (Below.refl _ w).alloc (Nat.le_refl _) _
  have K1 : Hid (Hk (w.alloc (.cells #[.string p, .slice q N c, .slice q' M c', .pointer (none)] 25)) w.heap.size p (.slice q N c) (.slice q' M c') (none)) := by
    refine ⟨?_, ?_, ?_, ?_, ?_⟩ <;> simp [go_sem]
  generalize (World.alloc w _) = w1 at b1 K1 ⊢
  have SA1 : Hid (SV w1 (.slice q N c) n la) := SA.out.below b1.out
  go_upto_region 5 with first
    | ((with_reducible refine (clone_any (.slice q N c) n la w1 SA1.out (Nat.le_trans L1.out (by decide))).mono ?_); rintro e w2 ⟨va', rfl, hb2, ho2⟩; obtain ⟨qa, ca, rfl⟩ := ho2.sv.shape; generalize la.length = Na at ho2 ⊢; have B2 : Hid (Below w.heap.size w w2) := b1.out.trans (hb2.mono b1.out.size); have O2 : Hid (Own w1.heap.size w2 (.slice qa Na ca) n la) := ho2; have SE2 : Hid (SV w2 (.slice q' M c') m le) := SE.out.below B2.out; have K2 : Hid (Hk w2 w.heap.size p (.slice q N c) (.slice q' M c') (none)) := K1.out.below hb2; have z2 : Hid (w1.heap.size ≤ w2.heap.size) := hb2.size; clear hb2 ho2)
    | ((with_reducible refine (clone_any (.slice q' M c') m le w2 SE2.out (Nat.le_trans L2.out (by decide))).mono ?_); rintro e w3 ⟨ve', rfl, hb3, ho3⟩; obtain ⟨qe, ce, rfl⟩ := ho3.sv.shape; generalize le.length = Ne at ho3 ⊢; have B3 : Hid (Below w.heap.size w w3) := B2.out.trans (hb3.mono B2.out.size); have O3 : Hid (Own w2.heap.size w3 (.slice qe Ne ce) m le) := ho3; have O3a : Hid (Own w1.heap.size w3 (.slice qa Na ca) n la) := O2.out.below hb3; have K3 : Hid (Hk w3 w.heap.size p (.slice q N c) (.slice q' M c') (none)) := K2.out.below hb3; have z3 : Hid (w2.heap.size ≤ w3.heap.size) := hb3.size; clear hb3 ho3)
  go_upto_region 8 with fail
  have C0 : Hid (Cop w ⟨p, n, la, m, le, none⟩ (.slice q N c) (.slice q' M c') (none) (.slice qa Na ca) (.slice qe Ne ce) (none) w3.heap.size w3 (w3.alloc (.cells #[.string p, .slice qa Na ca, .slice qe Ne ce, .pointer none] 25))) :=
    ⟨B3.out, rfl, K3.out.lt, K3.out, SA.out, SE.out, ST.out, O3a.out.mono b1.out.size, O3.out.mono B2.out.size, L1.out, L2.out, (Below.refl _ _).alloc (Nat.le_refl _) _, heap_alloc_new w3 _, .inl ⟨rfl, rfl, rfl⟩⟩
  clear K3 K2 K1 O3 O3a O2 SA1 SE2 z2 z3 B2 B3 b1 SA SE ST L1 L2
  generalize (World.alloc w3 _) = W at C0 ⊢
  generalize hO : w3.heap.size = O at C0 ⊢
  clear hO
  obtain ⟨d1, d2, P1, P2⟩ := C0.out.pe
  go_upto_region 10 with first
    | (go_at_call 5; (with_reducible refine (equal_yes C0.out.hookH C0.out.hookO P1).mono ?_); rintro e w4 ⟨rfl, h4⟩; have C4 : Hid (Cop w ⟨p, n, la, m, le, none⟩ (.slice q N c) (.slice q' M c') (none) (.slice qa Na ca) (.slice qe Ne ce) (none) O w3 w4) := C0.out.below h4; have P4 := P2.below h4; clear h4)
    | (go_at_call 5; (with_reducible refine (equal_yes C4.out.hookO C4.out.hookH P4).mono ?_); rintro e w5 ⟨rfl, h5⟩; have C5 : Hid (Cop w ⟨p, n, la, m, le, none⟩ (.slice q N c) (.slice q' M c') (none) (.slice qa Na ca) (.slice qe Ne ce) (none) O w3 w5) := C4.out.below h5; clear h5)
    | (go_at_call 5; (with_reducible refine (equal_yes C5.out.hookH C5.out.hookH (pe_same _ _)).mono ?_); rintro e w6 ⟨rfl, h6⟩; have C6 : Hid (Cop w ⟨p, n, la, m, le, none⟩ (.slice q N c) (.slice q' M c') (none) (.slice qa Na ca) (.slice qe Ne ce) (none) O w3 w6) := C5.out.below h6; clear h6)
  clear C0 C4 C5 P1 P2 P4
  have hO : O < w6.heap.size := (Array.getElem?_eq_some_iff.1 C6.out.blk).1
  have fO : ∀ i, w6.frozen? ⟨O, i, none⟩ = false := fun i => by simp [World.frozen?, C6.out.blk]
  have hj : (wrap64 sel).tmod 7 = 0 ∨ (wrap64 sel).tmod 7 = 1 ∨ (wrap64 sel).tmod 7 = 2 ∨ (wrap64 sel).tmod 7 = 3 ∨ (wrap64 sel).tmod 7 = 4 ∨ (wrap64 sel).tmod 7 = 5 ∨ (wrap64 sel).tmod 7 = 6 := by
    have e : wrap64 sel = sel := by unfold wrap64; omega
    rw [e, Int.tmod_eq_emod_of_nonneg hs.1]; omega
  clear hs
  rcases hj with hj | hj | hj | hj | hj | hj | hj
  · have c0 := C6.out.hookO.k.c0
    have f0 := fO 0
    clear fO k1 k2
    have hsz : ¬ 9223372036854775807 < p.size + 1 := by omega
    have hpn : Hid (¬ p = p ++ ⟨#[120]⟩) := fun e => by
      have e1 := congrArg ByteArray.size e
      rw [ByteArray.size_append] at e1
      have : (⟨#[120]⟩ : ByteArray).size = 1 := rfl
      omega
    clear hp
    go_upto_region 34 with fail
    generalize hX : (World.setCell w6 _ _) = X
    have CH : Hid (Chg w X w.heap.size O ⟨p, n, la, m, le, none⟩) := by
      rw [← hX]
      exact C6.out.set0 _ hpn.out
    clear hX
    go_wp2_with first
      | (go_at_call 5; (with_reducible refine CH.out.no.mono ?_); rintro e w8 ⟨rfl, h8⟩; have CH8 : Hid (Chg w w8 w.heap.size O ⟨p, n, la, m, le, none⟩) := CH.out.below h8; clear h8)
      | (go_at_call 5; (with_reducible refine CH8.out.no'.mono ?_); rintro e w9 ⟨rfl, h9⟩; have CH9 : Hid (Below w.heap.size w w9) := (CH8.out.below h9).bl; clear h9)
    go_ret
    exact ⟨rfl, CH9.out⟩
  · have cA : ∀ ob, (w6.alloc ob).cell? ⟨O, 1, none⟩ = some (.slice qa Na ca) := fun ob => (((Below.refl _ w6).alloc (Nat.le_refl _) ob).cell (p := ⟨O, 1, none⟩) hO).trans C6.out.hookO.k.c1
    have fA : ∀ ob, (w6.alloc ob).frozen? ⟨O, 1, none⟩ = false := fun ob => (((Below.refl _ w6).alloc (Nat.le_refl _) ob).frozen (p := ⟨O, 1, none⟩) hO).trans (fO 1)
    have c1 := C6.out.hookO.k.c1
    have f1 := fO 1
    have en := eql_nil C6.out.a
    clear fO k1 k2 hp
    cases n
    · go_upto_region 34 with fail
      generalize hX : (World.setCell w6 _ _) = X
      have CH : Hid (Chg w X w.heap.size O ⟨p, false, la, m, le, none⟩) := by
        rw [← hX]
        exact C6.out.set1 (Below.refl _ _) .nil (fun a k c e => by cases e) (by decide) (fun e => Bool.noConfusion e.1)
      clear hX
      go_wp2_with first
        | (go_at_call 5; (with_reducible refine CH.out.no.mono ?_); rintro e w8 ⟨rfl, h8⟩; have CH8 : Hid (Chg w w8 w.heap.size O ⟨p, false, la, m, le, none⟩) := CH.out.below h8; clear h8)
        | (go_at_call 5; (with_reducible refine CH8.out.no'.mono ?_); rintro e w9 ⟨rfl, h9⟩; have CH9 : Hid (Below w.heap.size w w9) := (CH8.out.below h9).bl; clear h9)
      go_ret
      exact ⟨rfl, CH9.out⟩
    · go_upto_region 34 with fail
      generalize hX : (World.alloc (World.setCell w6 _ _) _) = X
      have CH : Hid (Chg w X w.heap.size O ⟨p, true, la, m, le, none⟩) := by
        rw [← hX, ← World.setCell_alloc_past _ _ _ _ hO]
        exact C6.out.set1 ((Below.refl _ _).alloc (Nat.le_refl _) _) (.empty _ _) (fun a k c e => by cases e; exact .inl rfl) (by decide) (fun e => Bool.noConfusion e.1)
      clear hX
      go_wp2_with first
        | (go_at_call 5; (with_reducible refine CH.out.no.mono ?_); rintro e w8 ⟨rfl, h8⟩; have CH8 : Hid (Chg w w8 w.heap.size O ⟨p, true, la, m, le, none⟩) := CH.out.below h8; clear h8)
        | (go_at_call 5; (with_reducible refine CH8.out.no'.mono ?_); rintro e w9 ⟨rfl, h9⟩; have CH9 : Hid (Below w.heap.size w w9) := (CH8.out.below h9).bl; clear h9)
      go_ret
      exact ⟨rfl, CH9.out⟩
  · obtain ⟨pp, cc, w7, hap, hsv, hb7, hav⟩ := app22 (C6.out.oa.below (C6.out.sz ▸ C6.out.bW)) ⟨#[120]⟩ C6.out.l1
    have c1 := C6.out.hookO.k.c1
    have c7 := (hb7.cell (p := ⟨O, 1, none⟩) hO).trans c1
    have f7 := (hb7.frozen (p := ⟨O, 1, none⟩) hO).trans (fO 1)
    have cA : ∀ ob, (w6.alloc ob).cell? ⟨O, 1, none⟩ = some (.slice qa Na ca) := fun ob => (((Below.refl _ w6).alloc (Nat.le_refl _) ob).cell (p := ⟨O, 1, none⟩) hO).trans c1
    have hl7 : Hid ((la ++ [(⟨#[120]⟩ : ByteArray)]).length ≤ 2000) := by
      unfold Hid
      have : la.length ≤ 1024 := C6.out.l1
      simp only [List.length_append, List.length_cons, List.length_nil]
      omega
    have hne7 : Hid (¬ (n = false ∧ la = la ++ [(⟨#[120]⟩ : ByteArray)])) := fun e => by
      have := congrArg List.length e.2
      simp at this
    generalize (la ++ [(⟨#[120]⟩ : ByteArray)]).length = L at hap hsv
    generalize la ++ [(⟨#[120]⟩ : ByteArray)] = la7 at hsv hl7 hne7
    have HAP : Hid _ := hap
    have HSV : Hid (SV w7 (.slice pp L cc) false la7) := hsv
    have HB7 : Hid (Below w6.heap.size w6 w7) := hb7
    have HAV : Hid (∀ a k c, Value.slice pp L cc = .slice (some a) k c → k = 0 ∨ a.block ≠ O) := fun a k c e => by
      cases e
      exact .inr (fun e => by have := hav a rfl; omega)
    clear hap hsv hb7 hav fO k1 k2 hp
    go_upto_region 34 with first
      | (at_builtin; (with_reducible refine wpList_append_any ?_ (.tmp 78) (.tmp 79) 22 22 ?_ ?_ (v := .slice qa Na ca) (y := .slice (some ⟨w6.heap.size, 0, none⟩) 1 1) ?_ ?_ HAP.out ?_); (first | exact rfl | skip); (first | exact rfl | skip); (first | exact rfl | skip); (first | exact rfl | skip); (first | exact rfl | skip))
    generalize hX : (World.setCell w7 _ _) = X
    have CH : Hid (Chg w X w.heap.size O ⟨p, n, la, m, le, none⟩) := by
      rw [← hX]
      exact C6.out.set1 HB7.out HSV.out HAV.out hl7.out hne7.out
    clear hX
    go_wp2_with first
      | (go_at_call 5; (with_reducible refine CH.out.no.mono ?_); rintro e w8 ⟨rfl, h8⟩; have CH8 : Hid (Chg w w8 w.heap.size O ⟨p, n, la, m, le, none⟩) := CH.out.below h8; clear h8)
      | (go_at_call 5; (with_reducible refine CH8.out.no'.mono ?_); rintro e w9 ⟨rfl, h9⟩; have CH9 : Hid (Below w.heap.size w w9) := (CH8.out.below h9).bl; clear h9)
    go_ret
    exact ⟨rfl, CH9.out⟩
  · have cA : ∀ ob, (w6.alloc ob).cell? ⟨O, 2, none⟩ = some (.slice qe Ne ce) := fun ob => (((Below.refl _ w6).alloc (Nat.le_refl _) ob).cell (p := ⟨O, 2, none⟩) hO).trans C6.out.hookO.k.c2
    have fA : ∀ ob, (w6.alloc ob).frozen? ⟨O, 2, none⟩ = false := fun ob => (((Below.refl _ w6).alloc (Nat.le_refl _) ob).frozen (p := ⟨O, 2, none⟩) hO).trans (fO 2)
    have c1 := C6.out.hookO.k.c2
    have f1 := fO 2
    have en := eql_nil C6.out.e
    clear fO k1 k2 hp
    cases m
    · go_upto_region 34 with fail
      generalize hX : (World.setCell w6 _ _) = X
      have CH : Hid (Chg w X w.heap.size O ⟨p, n, la, false, le, none⟩) := by
        rw [← hX]
        exact C6.out.set2 (Below.refl _ _) .nil (fun a k c e => by cases e) (by decide) (fun e => Bool.noConfusion e.1)
      clear hX
      go_wp2_with first
        | (go_at_call 5; (with_reducible refine CH.out.no.mono ?_); rintro e w8 ⟨rfl, h8⟩; have CH8 : Hid (Chg w w8 w.heap.size O ⟨p, n, la, false, le, none⟩) := CH.out.below h8; clear h8)
        | (go_at_call 5; (with_reducible refine CH8.out.no'.mono ?_); rintro e w9 ⟨rfl, h9⟩; have CH9 : Hid (Below w.heap.size w w9) := (CH8.out.below h9).bl; clear h9)
      go_ret
      exact ⟨rfl, CH9.out⟩
    · go_upto_region 34 with fail
      generalize hX : (World.alloc (World.setCell w6 _ _) _) = X
      have CH : Hid (Chg w X w.heap.size O ⟨p, n, la, true, le, none⟩) := by
        rw [← hX, ← World.setCell_alloc_past _ _ _ _ hO]
        exact C6.out.set2 ((Below.refl _ _).alloc (Nat.le_refl _) _) (.empty _ _) (fun a k c e => by cases e; exact .inl rfl) (by decide) (fun e => Bool.noConfusion e.1)
      clear hX
      go_wp2_with first
        | (go_at_call 5; (with_reducible refine CH.out.no.mono ?_); rintro e w8 ⟨rfl, h8⟩; have CH8 : Hid (Chg w w8 w.heap.size O ⟨p, n, la, true, le, none⟩) := CH.out.below h8; clear h8)
        | (go_at_call 5; (with_reducible refine CH8.out.no'.mono ?_); rintro e w9 ⟨rfl, h9⟩; have CH9 : Hid (Below w.heap.size w w9) := (CH8.out.below h9).bl; clear h9)
      go_ret
      exact ⟨rfl, CH9.out⟩
  · obtain ⟨pp, cc, w7, hap, hsv, hb7, hav⟩ := app22 (C6.out.oe.below (C6.out.sz ▸ C6.out.bW)) ⟨#[75, 61, 118]⟩ C6.out.l2
    have c1 := C6.out.hookO.k.c2
    have c7 := (hb7.cell (p := ⟨O, 2, none⟩) hO).trans c1
    have f7 := (hb7.frozen (p := ⟨O, 2, none⟩) hO).trans (fO 2)
    have cA : ∀ ob, (w6.alloc ob).cell? ⟨O, 2, none⟩ = some (.slice qe Ne ce) := fun ob => (((Below.refl _ w6).alloc (Nat.le_refl _) ob).cell (p := ⟨O, 2, none⟩) hO).trans c1
    have hl7 : Hid ((le ++ [(⟨#[75, 61, 118]⟩ : ByteArray)]).length ≤ 2000) := by
      unfold Hid
      have : le.length ≤ 1024 := C6.out.l2
      simp only [List.length_append, List.length_cons, List.length_nil]
      omega
    have hne7 : Hid (¬ (m = false ∧ le = le ++ [(⟨#[75, 61, 118]⟩ : ByteArray)])) := fun e => by
      have := congrArg List.length e.2
      simp at this
    generalize (le ++ [(⟨#[75, 61, 118]⟩ : ByteArray)]).length = L at hap hsv
    generalize le ++ [(⟨#[75, 61, 118]⟩ : ByteArray)] = la7 at hsv hl7 hne7
    have HAP : Hid _ := hap
    have HSV : Hid (SV w7 (.slice pp L cc) false la7) := hsv
    have HB7 : Hid (Below w6.heap.size w6 w7) := hb7
    have HAV : Hid (∀ a k c, Value.slice pp L cc = .slice (some a) k c → k = 0 ∨ a.block ≠ O) := fun a k c e => by
      cases e
      exact .inr (fun e => by have := hav a rfl; omega)
    clear hap hsv hb7 hav fO k1 k2 hp
    go_upto_region 34 with first
      | (at_builtin; (with_reducible refine wpList_append_any ?_ (.tmp 92) (.tmp 93) 22 22 ?_ ?_ (v := .slice qe Ne ce) (y := .slice (some ⟨w6.heap.size, 0, none⟩) 1 1) ?_ ?_ HAP.out ?_); (first | exact rfl | skip); (first | exact rfl | skip); (first | exact rfl | skip); (first | exact rfl | skip); (first | exact rfl | skip))
    generalize hX : (World.setCell w7 _ _) = X
    have CH : Hid (Chg w X w.heap.size O ⟨p, n, la, m, le, none⟩) := by
      rw [← hX]
      exact C6.out.set2 HB7.out HSV.out HAV.out hl7.out hne7.out
    clear hX
    go_wp2_with first
      | (go_at_call 5; (with_reducible refine CH.out.no.mono ?_); rintro e w8 ⟨rfl, h8⟩; have CH8 : Hid (Chg w w8 w.heap.size O ⟨p, n, la, m, le, none⟩) := CH.out.below h8; clear h8)
      | (go_at_call 5; (with_reducible refine CH8.out.no'.mono ?_); rintro e w9 ⟨rfl, h9⟩; have CH9 : Hid (Below w.heap.size w w9) := (CH8.out.below h9).bl; clear h9)
    go_ret
    exact ⟨rfl, CH9.out⟩
  · have cA : ∀ ob, (w6.alloc ob).cell? ⟨O, 3, none⟩ = some (.pointer none) := fun ob => (((Below.refl _ w6).alloc (Nat.le_refl _) ob).cell (p := ⟨O, 3, none⟩) hO).trans C6.out.hookO.k.c3
    have fA : ∀ ob, (w6.alloc ob).frozen? ⟨O, 3, none⟩ = false := fun ob => (((Below.refl _ w6).alloc (Nat.le_refl _) ob).frozen (p := ⟨O, 3, none⟩) hO).trans (fO 3)
    clear fO k1 k2 hp
    go_upto_region 34 with fail
    generalize hX : (World.alloc (World.setCell w6 _ _) _) = X
    have CH : Hid (Chg w X w.heap.size O ⟨p, n, la, m, le, none⟩) := by
      rw [← hX, ← World.setCell_alloc_past _ _ _ _ hO]
      exact C6.out.set3' k (fun e => by cases e)
    clear hX
    go_wp2_with first
      | (go_at_call 5; (with_reducible refine CH.out.no.mono ?_); rintro e w8 ⟨rfl, h8⟩; have CH8 : Hid (Chg w w8 w.heap.size O ⟨p, n, la, m, le, none⟩) := CH.out.below h8; clear h8)
      | (go_at_call 5; (with_reducible refine CH8.out.no'.mono ?_); rintro e w9 ⟨rfl, h9⟩; have CH9 : Hid (Below w.heap.size w w9) := (CH8.out.below h9).bl; clear h9)
    go_ret
    exact ⟨rfl, CH9.out⟩
  · clear fO k1 k2 hp
    go_wp2
    go_ret
    exact ⟨rfl, C6.out.bw⟩

end Go.Proofs.Ybulkcsge
