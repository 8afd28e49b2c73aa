/-
  OWN TEXT. LawS4696BModel (func 3), walked.
-/
import Derived.Test.YbulkcsfqFmtHa
namespace Go.Proofs.YbulkcsfqFmt.Fa
open Go.RowKit Go.Extern.Stop Go.Stop Go.Extern

theorem inf27 (y m u : Int) : (Ybaf.prog.info? 27).map (·.size) = some ([Value.int .i64 y, .int .i64 m, .int .i64 u]).length := by kernel_rfl
def unknownDay : ByteArray := ⟨#[122, 122, 32, 117, 110, 107, 110, 111, 119, 110, 32, 100, 97, 121]⟩

set_option maxRecDepth 100000 in
set_option maxHeartbeats 3200000 in
theorem model_false (F : Interp) (a b c d e f y m u : Int) (w : World) (hF : F.answers w.tape) :
    Calls Ybaf.prog 3 #[.int .i64 a, .int .i64 b, .int .i64 c, .int .i64 d, .int .i64 e, .int .i64 f, .int .i64 y, .int .i64 m, .int .i64 u, .bool false] w
      fun x w' => x = .returned (.bool true) ∧ Below w.heap.size w w' := by
  go_enter Ybaf.func3, Ybaf.ntmps3
  go_upto_region 2 with (go_at_call 6; refine (new_any _ _).mono ?_; rintro x w1 ⟨rfl, rfl⟩)
  generalize hV : (World.alloc w _) = V
  have hbV : Hd (Below w.heap.size w V) := by rw [← hV]; exact (Below.refl _ w).alloc (Nat.le_refl _) _
  have hcV : Hd (ErrV V (.nilIface)) := by rw [← hV]; exact .nil
  clear hV
  go_upto_region 4 with (go_at_call 7; refine (day_any a b c d e f false ⟨w.heap.size, 0, none⟩ V).mono ?_; rintro x w2 ⟨rfl, h2⟩)
  have st : Hd (Boxed w2 (dayL a b c d e f (.nilIface)) [.int .i64 y, .int .i64 m, .int .i64 u] ((w2.alloc (.cells #[.int .i64 0, .int .i64 0, .int .i64 0, .int .i64 0, .int .i64 a, .int .i64 b, .int .i64 c, .int .i64 d, .int .i64 e, .int .i64 f, .nilIface] 31)).alloc (.cells #[.int .i64 y, .int .i64 m, .int .i64 u] 27))) := Boxed.start w2 (dayL a b c d e f (.nilIface)) _ 31 27
  generalize ((World.alloc w2 _).alloc _) = W at st ⊢
  have hbW : Hd (Below w.heap.size w W) := hbV.out.trans ((h2.mono hbV.out.size).trans (st.out.b.mono (Nat.le_trans hbV.out.size h2.size)))
  have hcW : Hd (ErrV W (.nilIface)) := (hcV.out.below h2).below st.out.b
  have hFW : Hd (F.answers W.tape) := by unfold Hd; rw [hbW.out.tape]; exact hF
  have hr : Hd (W.rangeAt w2.heap.size 0 (dayL a b c d e f (.nilIface))) := st.out.r
  have hs : Hd (W.rangeAt (w2.heap.size + 1) 0 [.int .i64 y, .int .i64 m, .int .i64 u]) := st.out.s
  go_upto_region 5 with first
    | ((with_reducible refine wpList_load_mid rfl 31 (.tmp 22) rfl w2.heap.size 0 ?_ (dayL a b c d e f (.nilIface)) _ ?_ Ybaf.underlying31 ?_ ?_ ?_); (exact rfl); (exact hr.out); (exact rfl); (exact inf31 ..))
    | ((with_reducible refine wpList_load_mid rfl 27 (.tmp 23) rfl (w2.heap.size + 1) 0 ?_ [.int .i64 y, .int .i64 m, .int .i64 u] _ ?_ Ybaf.underlying27 ?_ ?_ ?_); (exact rfl); (exact hs.out); (exact rfl); (exact inf27 ..))
    | (go_at_call 8; refine (after_any F a b c d e f y m u (.nilIface) W hFW.out hcW.out).mono ?_; rintro x w3 ⟨o1, z1, rfl, h3, sne1⟩; have T1 : Hd _ := sne1; clear sne1)
  have st3 : Hd _ := st.out.step h3
  have hb3 : Hd (Below w.heap.size w w3) := hbW.out.trans (h3.mono hbW.out.size)
  have hW3 : Hd (w.heap.size ≤ W.heap.size) := hbW.out.size
  clear h3 hr hs hcW hFW hbW st h2 hbV hcV
  have l4 := st3.out.l 4 _ rfl
  have l5 := st3.out.l 5 _ rfl
  have l6 := st3.out.l 6 _ rfl
  have m0 := st3.out.m 0 _ rfl
  have m1 := st3.out.m 1 _ rfl
  have m2 := st3.out.m 2 _ rfl
  have hd : Hd (∀ w4, Below w3.heap.size w3 w4 → Boxed w2 (dayL a b c d e f (.nilIface)) [.int .i64 y, .int .i64 m, .int .i64 u] w4) := fun w4 h => st3.out.step h
  by_cases A : 0 < dcmp ⟨a, b, c⟩ ⟨y, m, u⟩
  · obtain rfl : o1 = true := T1.out.1.2 A
    obtain rfl : z1 = .nilIface := T1.out.2.1 (.inl A)
    go_wp2_with (go_at_call 9; refine (own_cmp ⟨a, b, c⟩ ⟨y, m, u⟩ _).mono ?_; rintro x w4 ⟨rfl, h4⟩)
    go_ret
    exact ⟨rfl, hb3.out.trans (h4.mono hb3.out.size)⟩
  · obtain rfl : o1 = false := by
      have := T1.out.1.1
      cases o1
      · rfl
      · exact absurd (this rfl) A
    go_upto_region 7 with (go_at_call 9; refine (own_cmp ⟨a, b, c⟩ ⟨y, m, u⟩ _).mono ?_; rintro x w4 ⟨rfl, h4⟩)
    have st4 : Hd _ := hd.out _ h4
    have hb4 : Hd (Below w.heap.size w w4) := hb3.out.trans (h4.mono hb3.out.size)
    have h34 : Hd (Below w3.heap.size w3 w4) := h4
    clear hd l4 l5 l6 m0 m1 m2 h4
    have l7 := st4.out.l 7 _ rfl
    have l8 := st4.out.l 8 _ rfl
    have l9 := st4.out.l 9 _ rfl
    have m0 := st4.out.m 0 _ rfl
    have m1 := st4.out.m 1 _ rfl
    have m2 := st4.out.m 2 _ rfl
    by_cases B : dcmp ⟨d, e, f⟩ ⟨y, m, u⟩ ≤ 0
    · obtain rfl : z1 = .nilIface := T1.out.2.1 (.inr B)
      go_wp2_with (go_at_call 9; refine (own_cmp ⟨d, e, f⟩ ⟨y, m, u⟩ _).mono ?_; rintro x w5 ⟨rfl, h5⟩)
      go_ret
      exact ⟨rfl, hb4.out.trans (h5.mono hb4.out.size)⟩
    · obtain ⟨k, rfl, hk1, hk2, hk3⟩ := T1.out.2.2 (by omega) (by omega)
      clear T1
      have hk4 : Hd (w4.cell? ⟨k, 1, none⟩ = some (.nilIface)) := (h34.out.cell (p := ⟨k, 1, none⟩) hk2).trans hk3
      have hk5 : Hd (k < w4.heap.size) := Nat.lt_of_lt_of_le hk2 h34.out.size
      clear hk1 hk2 hk3
      go_upto_region 9 with (go_at_call 9; refine (own_cmp ⟨d, e, f⟩ ⟨y, m, u⟩ _).mono ?_; rintro x w5 ⟨rfl, h5⟩)
      have hb5 : Hd (Below w.heap.size w w5) := hb4.out.trans (h5.mono hb4.out.size)
      have hk6 : Hd (w5.cell? ⟨k, 1, none⟩ = some (.nilIface)) := (h5.cell (p := ⟨k, 1, none⟩) hk5.out).trans hk4.out
      clear h5 hk4 hk5 l7 l8 l9 m0 m1 m2 h34
      go_wp2
      go_ret
      exact ⟨rfl, hb5.out⟩

set_option maxRecDepth 100000 in
set_option maxHeartbeats 3200000 in
theorem model_true (F : Interp) (a b c d e f y m u : Int) (w : World) (hF : F.answers w.tape) :
    Calls Ybaf.prog 3 #[.int .i64 a, .int .i64 b, .int .i64 c, .int .i64 d, .int .i64 e, .int .i64 f, .int .i64 y, .int .i64 m, .int .i64 u, .bool true] w
      fun x w' => x = .returned (.bool true) ∧ Below w.heap.size w w' := by
  go_enter Ybaf.func3, Ybaf.ntmps3
  go_upto_region 2 with (go_at_call 6; refine (new_any _ _).mono ?_; rintro x w1 ⟨rfl, rfl⟩)
  generalize hV : (World.alloc w _) = V
  have hbV : Hd (Below w.heap.size w V) := by rw [← hV]; exact (Below.refl _ w).alloc (Nat.le_refl _) _
  have hcV : Hd (ErrV V (.iface 48 (.pointer (some ⟨w.heap.size, 0, none⟩)))) := by rw [← hV]; exact .some _ unknownDay (by simp [go_sem, unknownDay]) (by simp)
  clear hV
  go_upto_region 4 with (go_at_call 7; refine (day_any a b c d e f true ⟨w.heap.size, 0, none⟩ V).mono ?_; rintro x w2 ⟨rfl, h2⟩)
  have st : Hd (Boxed w2 (dayL a b c d e f (.iface 48 (.pointer (some ⟨w.heap.size, 0, none⟩)))) [.int .i64 y, .int .i64 m, .int .i64 u] ((w2.alloc (.cells #[.int .i64 0, .int .i64 0, .int .i64 0, .int .i64 0, .int .i64 a, .int .i64 b, .int .i64 c, .int .i64 d, .int .i64 e, .int .i64 f, .iface 48 (.pointer (some ⟨w.heap.size, 0, none⟩))] 31)).alloc (.cells #[.int .i64 y, .int .i64 m, .int .i64 u] 27))) := Boxed.start w2 (dayL a b c d e f (.iface 48 (.pointer (some ⟨w.heap.size, 0, none⟩)))) _ 31 27
  generalize ((World.alloc w2 _).alloc _) = W at st ⊢
  have hbW : Hd (Below w.heap.size w W) := hbV.out.trans ((h2.mono hbV.out.size).trans (st.out.b.mono (Nat.le_trans hbV.out.size h2.size)))
  have hcW : Hd (ErrV W (.iface 48 (.pointer (some ⟨w.heap.size, 0, none⟩)))) := (hcV.out.below h2).below st.out.b
  have hFW : Hd (F.answers W.tape) := by unfold Hd; rw [hbW.out.tape]; exact hF
  have hr : Hd (W.rangeAt w2.heap.size 0 (dayL a b c d e f (.iface 48 (.pointer (some ⟨w.heap.size, 0, none⟩))))) := st.out.r
  have hs : Hd (W.rangeAt (w2.heap.size + 1) 0 [.int .i64 y, .int .i64 m, .int .i64 u]) := st.out.s
  go_upto_region 5 with first
    | ((with_reducible refine wpList_load_mid rfl 31 (.tmp 22) rfl w2.heap.size 0 ?_ (dayL a b c d e f (.iface 48 (.pointer (some ⟨w.heap.size, 0, none⟩)))) _ ?_ Ybaf.underlying31 ?_ ?_ ?_); (exact rfl); (exact hr.out); (exact rfl); (exact inf31 ..))
    | ((with_reducible refine wpList_load_mid rfl 27 (.tmp 23) rfl (w2.heap.size + 1) 0 ?_ [.int .i64 y, .int .i64 m, .int .i64 u] _ ?_ Ybaf.underlying27 ?_ ?_ ?_); (exact rfl); (exact hs.out); (exact rfl); (exact inf27 ..))
    | (go_at_call 8; refine (after_any F a b c d e f y m u (.iface 48 (.pointer (some ⟨w.heap.size, 0, none⟩))) W hFW.out hcW.out).mono ?_; rintro x w3 ⟨o1, z1, rfl, h3, sne1⟩; have T1 : Hd _ := sne1; clear sne1)
  have st3 : Hd _ := st.out.step h3
  have hb3 : Hd (Below w.heap.size w w3) := hbW.out.trans (h3.mono hbW.out.size)
  have hW3 : Hd (w.heap.size ≤ W.heap.size) := hbW.out.size
  clear h3 hr hs hcW hFW hbW st h2 hbV hcV
  have l4 := st3.out.l 4 _ rfl
  have l5 := st3.out.l 5 _ rfl
  have l6 := st3.out.l 6 _ rfl
  have m0 := st3.out.m 0 _ rfl
  have m1 := st3.out.m 1 _ rfl
  have m2 := st3.out.m 2 _ rfl
  have hd : Hd (∀ w4, Below w3.heap.size w3 w4 → Boxed w2 (dayL a b c d e f (.iface 48 (.pointer (some ⟨w.heap.size, 0, none⟩)))) [.int .i64 y, .int .i64 m, .int .i64 u] w4) := fun w4 h => st3.out.step h
  by_cases A : 0 < dcmp ⟨a, b, c⟩ ⟨y, m, u⟩
  · obtain rfl : o1 = true := T1.out.1.2 A
    obtain rfl : z1 = .nilIface := T1.out.2.1 (.inl A)
    go_wp2_with (go_at_call 9; refine (own_cmp ⟨a, b, c⟩ ⟨y, m, u⟩ _).mono ?_; rintro x w4 ⟨rfl, h4⟩)
    go_ret
    exact ⟨rfl, hb3.out.trans (h4.mono hb3.out.size)⟩
  · obtain rfl : o1 = false := by
      have := T1.out.1.1
      cases o1
      · rfl
      · exact absurd (this rfl) A
    go_upto_region 7 with (go_at_call 9; refine (own_cmp ⟨a, b, c⟩ ⟨y, m, u⟩ _).mono ?_; rintro x w4 ⟨rfl, h4⟩)
    have st4 : Hd _ := hd.out _ h4
    have hb4 : Hd (Below w.heap.size w w4) := hb3.out.trans (h4.mono hb3.out.size)
    have h34 : Hd (Below w3.heap.size w3 w4) := h4
    clear hd l4 l5 l6 m0 m1 m2 h4
    have l7 := st4.out.l 7 _ rfl
    have l8 := st4.out.l 8 _ rfl
    have l9 := st4.out.l 9 _ rfl
    have m0 := st4.out.m 0 _ rfl
    have m1 := st4.out.m 1 _ rfl
    have m2 := st4.out.m 2 _ rfl
    by_cases B : dcmp ⟨d, e, f⟩ ⟨y, m, u⟩ ≤ 0
    · obtain rfl : z1 = .nilIface := T1.out.2.1 (.inr B)
      go_wp2_with (go_at_call 9; refine (own_cmp ⟨d, e, f⟩ ⟨y, m, u⟩ _).mono ?_; rintro x w5 ⟨rfl, h5⟩)
      go_ret
      exact ⟨rfl, hb4.out.trans (h5.mono hb4.out.size)⟩
    · obtain ⟨k, rfl, hk1, hk2, hk3⟩ := T1.out.2.2 (by omega) (by omega)
      clear T1
      have hk4 : Hd (w4.cell? ⟨k, 1, none⟩ = some (.iface 48 (.pointer (some ⟨w.heap.size, 0, none⟩)))) := (h34.out.cell (p := ⟨k, 1, none⟩) hk2).trans hk3
      have hk5 : Hd (k < w4.heap.size) := Nat.lt_of_lt_of_le hk2 h34.out.size
      clear hk1 hk2 hk3
      go_upto_region 9 with (go_at_call 9; refine (own_cmp ⟨d, e, f⟩ ⟨y, m, u⟩ _).mono ?_; rintro x w5 ⟨rfl, h5⟩)
      have hb5 : Hd (Below w.heap.size w w5) := hb4.out.trans (h5.mono hb4.out.size)
      have hk6 : Hd (w5.cell? ⟨k, 1, none⟩ = some (.iface 48 (.pointer (some ⟨w.heap.size, 0, none⟩)))) := (h5.cell (p := ⟨k, 1, none⟩) hk5.out).trans hk4.out
      clear h5 hk4 hk5 l7 l8 l9 m0 m1 m2 h34
      go_wp2_with (go_at_call 10; refine (is_wrap_same k ⟨w.heap.size, 0, none⟩ _ ?_).mono ?_; (exact hk6.out); rintro x w6 ⟨rfl, rfl⟩)
      go_ret
      exact ⟨rfl, hb5.out⟩
end Go.Proofs.YbulkcsfqFmt.Fa
