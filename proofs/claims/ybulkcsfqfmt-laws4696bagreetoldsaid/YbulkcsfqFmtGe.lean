/-
  OWN TEXT. LawS4696BAgree (func 4), walked.
-/
import Derived.Test.YbulkcsfqFmtGd
namespace Go.Proofs.YbulkcsfqFmt.Fa
open Go.RowKit Go.Extern.Stop Go.Stop Go.Extern

theorem inf27 (y m u : Int) : (Ybaf.prog.info? 27).map (·.size) = some ([Value.int .i64 y, .int .i64 m, .int .i64 u]).length := by kernel_rfl

@[go_sem] theorem eql23 (t : TypeId) (v : Value) (w : World) : (binOp .eql 23 (.iface t v) .nilIface).run Ybaf.prog w = .ok (.bool false) w := by
  have h : ∀ d : Nat, (Op.equalIn (d + 1) 23 (.iface t v) .nilIface).run Ybaf.prog w = .ok false w := fun d => by simp [Op.equalIn, run_underlying Ybaf.underlying23]
  simp only [binOp]
  simp [Op.equal, Op.maxDepth, h 9999]

def dayErr (he : Bool) (k : Nat) : Value := if he then .iface 48 (.pointer (some ⟨k, 0, none⟩)) else .nilIface
def unknownDay : ByteArray := ⟨#[122, 122, 32, 117, 110, 107, 110, 111, 119, 110, 32, 100, 97, 121]⟩

/-- the answers of After and of OnOrAfter, as the law asks -/
def Said (A B : Prop) (o : Bool) (z : Value) : Prop := (o = true ↔ A) ∧ (A ∨ B → z = .nilIface) ∧ (¬ A → ¬ B → ∃ p, z = .iface 73 (.pointer (some p)))

set_option maxRecDepth 100000 in
set_option maxHeartbeats 3200000 in
theorem agree_false (F : Interp) (a b c d e f y m u : Int) (w : World) (hF : F.answers w.tape) :
    Calls Ybaf.prog 4 #[.int .i64 a, .int .i64 b, .int .i64 c, .int .i64 d, .int .i64 e, .int .i64 f, .int .i64 y, .int .i64 m, .int .i64 u, .bool false] w
      fun x w' => x = .returned (.bool true) ∧ Below w.heap.size w w' := by
  go_enter Ybaf.func4, Ybaf.ntmps4
  go_upto_region 2 with (go_at_call 6; refine (new_any _ _).mono ?_; rintro x w1 ⟨rfl, rfl⟩)
  generalize hV : (World.alloc w _) = V
  have hbV : Hd (Below w.heap.size w V) := by rw [← hV]; exact (Below.refl _ w).alloc (Nat.le_refl _) _
  have hcV : Hd (ErrV V (.nilIface)) := by rw [← hV]; exact .nil
  clear hV
  go_upto_region 4 with (go_at_call 7; refine (day_any a b c d e f false ⟨w.heap.size, 0, none⟩ V).mono ?_; rintro x w2 ⟨rfl, h2⟩)
  have st : Hd (Boxed w2 (dayL a b c d e f (.nilIface)) [.int .i64 y, .int .i64 m, .int .i64 u] ((w2.alloc (.cells #[.int .i64 0, .int .i64 0, .int .i64 0, .int .i64 0, .int .i64 a, .int .i64 b, .int .i64 c, .int .i64 d, .int .i64 e, .int .i64 f, .nilIface] 31)).alloc (.cells #[.int .i64 y, .int .i64 m, .int .i64 u] 27))) := Boxed.start w2 (dayL a b c d e f (.nilIface)) _ 31 27
  generalize ((World.alloc w2 _).alloc _) = W at st ⊢
  have hbW : Hd (Below w.heap.size w W) := hbV.out.trans ((h2.mono hbV.out.size).trans (st.out.b.mono (Nat.le_trans hbV.out.size h2.size)))
  have hcW : Hd (ErrV W (.nilIface)) := (hcV.out.below h2).below st.out.b
  have hFW : Hd (F.answers W.tape) := by unfold Hd; rw [hbW.out.tape]; exact hF
  have hr : Hd (W.rangeAt w2.heap.size 0 (dayL a b c d e f (.nilIface))) := st.out.r
  have hs : Hd (W.rangeAt (w2.heap.size + 1) 0 [.int .i64 y, .int .i64 m, .int .i64 u]) := st.out.s
  go_upto_region 5 with first
    | ((with_reducible refine wpList_load_mid rfl 31 (.tmp 22) rfl w2.heap.size 0 ?_ (dayL a b c d e f (.nilIface)) _ ?_ Ybaf.underlying31 ?_ ?_ ?_); (exact rfl); (exact hr.out); (exact rfl); (exact inf31 ..))
    | ((with_reducible refine wpList_load_mid rfl 27 (.tmp 23) rfl (w2.heap.size + 1) 0 ?_ [.int .i64 y, .int .i64 m, .int .i64 u] _ ?_ Ybaf.underlying27 ?_ ?_ ?_); (exact rfl); (exact hs.out); (exact rfl); (exact inf27 ..))
    | (go_at_call 8; refine (after_any F a b c d e f y m u (.nilIface) W hFW.out hcW.out).mono ?_; rintro x w3 ⟨o1, z1, rfl, h3, sne1⟩; have T1 : Hd _ := sne1; clear sne1)
  have st3 : Hd _ := st.out.step h3
  have hb3 : Hd (Below w.heap.size w w3) := hbW.out.trans (h3.mono hbW.out.size)
  have hc3 : Hd (ErrV w3 (.nilIface)) := hcW.out.below h3
  have hF3 : Hd (F.answers w3.tape) := by unfold Hd; rw [hb3.out.tape]; exact hF
  have hr3 : Hd (w3.rangeAt w2.heap.size 0 (dayL a b c d e f (.nilIface))) := st3.out.r
  have hs3 : Hd (w3.rangeAt (w2.heap.size + 1) 0 [.int .i64 y, .int .i64 m, .int .i64 u]) := st3.out.s
  go_upto_region 6 with first
    | ((with_reducible refine wpList_load_mid rfl 31 (.tmp 22) rfl w2.heap.size 0 ?_ (dayL a b c d e f (.nilIface)) _ ?_ Ybaf.underlying31 ?_ ?_ ?_); (exact rfl); (exact hr3.out); (exact rfl); (exact inf31 ..))
    | ((with_reducible refine wpList_load_mid rfl 27 (.tmp 23) rfl (w2.heap.size + 1) 0 ?_ [.int .i64 y, .int .i64 m, .int .i64 u] _ ?_ Ybaf.underlying27 ?_ ?_ ?_); (exact rfl); (exact hs3.out); (exact rfl); (exact inf27 ..))
    | (go_at_call 11; refine (onor_any F a b c d e f y m u (.nilIface) w3 hF3.out hc3.out).mono ?_; rintro x w4 ⟨o2, z2, rfl, h4, sne2⟩; have T2 : Hd _ := sne2; clear sne2)
  have hb4 : Below w.heap.size w w4 := hb3.out.trans (h4.mono hb3.out.size)
  obtain ⟨s1, n1, e1⟩ := T1.out
  obtain ⟨s2, n2, e2⟩ := T2.out
  clear T1 T2
  clear st hr hs st3 hr3 hs3 hc3 hF3 hb3 hcW hFW hbW h2 h3 h4 hbV hcV hF
  generalize dcmp ⟨a, b, c⟩ ⟨y, m, u⟩ = C1 at s1 n1 e1 s2 n2 e2
  generalize dcmp ⟨d, e, f⟩ ⟨y, m, u⟩ = C2 at s1 n1 e1 s2 n2 e2
  have key : (o1 = true ∧ z1 = .nilIface ∧ o2 = true ∧ z2 = .nilIface) ∨ (o1 = false ∧ z1 = .nilIface ∧ o2 = false ∧ z2 = .nilIface) ∨ (o1 = false ∧ o2 = true) ∨ (o1 = false ∧ ∃ p, z2 = .iface 73 (.pointer (some p))) := by
    by_cases A1 : 0 < C1
    · exact .inl ⟨s1.2 A1, n1 (.inl A1), s2.2 (by omega), n2 (.inl (by omega))⟩
    · have o1f : o1 = false := by cases o1; rfl; exact absurd (s1.1 rfl) A1
      by_cases A2 : 0 ≤ C1
      · exact .inr (.inr (.inl ⟨o1f, s2.2 A2⟩))
      · by_cases B2 : C2 < 0
        · have o2f : o2 = false := by cases o2; rfl; exact absurd (s2.1 rfl) A2
          exact .inr (.inl ⟨o1f, n1 (.inr (by omega)), o2f, n2 (.inr B2)⟩)
        · obtain ⟨k, hk, _⟩ := e2 (by omega) (by omega)
          exact .inr (.inr (.inr ⟨o1f, _, hk⟩))
  have hz1 : z1 = .nilIface ∨ ∃ p, z1 = .iface 73 (.pointer (some p)) := by
    by_cases A1 : 0 < C1 ∨ C2 ≤ 0
    · exact .inl (n1 A1)
    · obtain ⟨k, hk, _⟩ := e1 (by omega) (by omega)
      exact .inr ⟨_, hk⟩
  have hz2 : z2 = .nilIface ∨ ∃ p, z2 = .iface 73 (.pointer (some p)) := by
    by_cases A1 : 0 ≤ C1 ∨ C2 < 0
    · exact .inl (n2 A1)
    · obtain ⟨k, hk, _⟩ := e2 (by omega) (by omega)
      exact .inr ⟨_, hk⟩
  clear s1 n1 e1 s2 n2 e2
  rcases key with ⟨rfl, rfl, rfl, rfl⟩ | ⟨rfl, rfl, rfl, rfl⟩ | ⟨rfl, rfl⟩ | ⟨rfl, p, rfl⟩
  · clear hz1 hz2
    go_wp2
    go_ret
    exact ⟨rfl, hb4⟩
  · clear hz1 hz2
    go_wp2
    go_ret
    exact ⟨rfl, hb4⟩
  · rcases hz1 with rfl | ⟨p, rfl⟩ <;> rcases hz2 with rfl | ⟨q, rfl⟩ <;> (go_wp2; go_ret; exact ⟨rfl, hb4⟩)
  · clear hz2
    rcases hz1 with rfl | ⟨p, rfl⟩ <;> (go_wp2; go_ret; exact ⟨rfl, hb4⟩)

set_option maxRecDepth 100000 in
set_option maxHeartbeats 3200000 in
theorem agree_true (F : Interp) (a b c d e f y m u : Int) (w : World) (hF : F.answers w.tape) :
    Calls Ybaf.prog 4 #[.int .i64 a, .int .i64 b, .int .i64 c, .int .i64 d, .int .i64 e, .int .i64 f, .int .i64 y, .int .i64 m, .int .i64 u, .bool true] w
      fun x w' => x = .returned (.bool true) ∧ Below w.heap.size w w' := by
  go_enter Ybaf.func4, Ybaf.ntmps4
  go_upto_region 2 with (go_at_call 6; refine (new_any _ _).mono ?_; rintro x w1 ⟨rfl, rfl⟩)
  generalize hV : (World.alloc w _) = V
  have hbV : Hd (Below w.heap.size w V) := by rw [← hV]; exact (Below.refl _ w).alloc (Nat.le_refl _) _
  have hcV : Hd (ErrV V (.iface 48 (.pointer (some ⟨w.heap.size, 0, none⟩)))) := by rw [← hV]; exact .some _ unknownDay (by simp [go_sem, unknownDay]) (by simp)
  clear hV
  go_upto_region 4 with (go_at_call 7; refine (day_any a b c d e f true ⟨w.heap.size, 0, none⟩ V).mono ?_; rintro x w2 ⟨rfl, h2⟩)
  have st : Hd (Boxed w2 (dayL a b c d e f (.iface 48 (.pointer (some ⟨w.heap.size, 0, none⟩)))) [.int .i64 y, .int .i64 m, .int .i64 u] ((w2.alloc (.cells #[.int .i64 0, .int .i64 0, .int .i64 0, .int .i64 0, .int .i64 a, .int .i64 b, .int .i64 c, .int .i64 d, .int .i64 e, .int .i64 f, .iface 48 (.pointer (some ⟨w.heap.size, 0, none⟩))] 31)).alloc (.cells #[.int .i64 y, .int .i64 m, .int .i64 u] 27))) := Boxed.start w2 (dayL a b c d e f (.iface 48 (.pointer (some ⟨w.heap.size, 0, none⟩)))) _ 31 27
  generalize ((World.alloc w2 _).alloc _) = W at st ⊢
  have hbW : Hd (Below w.heap.size w W) := hbV.out.trans ((h2.mono hbV.out.size).trans (st.out.b.mono (Nat.le_trans hbV.out.size h2.size)))
  have hcW : Hd (ErrV W (.iface 48 (.pointer (some ⟨w.heap.size, 0, none⟩)))) := (hcV.out.below h2).below st.out.b
  have hFW : Hd (F.answers W.tape) := by unfold Hd; rw [hbW.out.tape]; exact hF
  have hr : Hd (W.rangeAt w2.heap.size 0 (dayL a b c d e f (.iface 48 (.pointer (some ⟨w.heap.size, 0, none⟩))))) := st.out.r
  have hs : Hd (W.rangeAt (w2.heap.size + 1) 0 [.int .i64 y, .int .i64 m, .int .i64 u]) := st.out.s
  go_upto_region 5 with first
    | ((with_reducible refine wpList_load_mid rfl 31 (.tmp 22) rfl w2.heap.size 0 ?_ (dayL a b c d e f (.iface 48 (.pointer (some ⟨w.heap.size, 0, none⟩)))) _ ?_ Ybaf.underlying31 ?_ ?_ ?_); (exact rfl); (exact hr.out); (exact rfl); (exact inf31 ..))
    | ((with_reducible refine wpList_load_mid rfl 27 (.tmp 23) rfl (w2.heap.size + 1) 0 ?_ [.int .i64 y, .int .i64 m, .int .i64 u] _ ?_ Ybaf.underlying27 ?_ ?_ ?_); (exact rfl); (exact hs.out); (exact rfl); (exact inf27 ..))
    | (go_at_call 8; refine (after_any F a b c d e f y m u (.iface 48 (.pointer (some ⟨w.heap.size, 0, none⟩))) W hFW.out hcW.out).mono ?_; rintro x w3 ⟨o1, z1, rfl, h3, sne1⟩; have T1 : Hd _ := sne1; clear sne1)
  have st3 : Hd _ := st.out.step h3
  have hb3 : Hd (Below w.heap.size w w3) := hbW.out.trans (h3.mono hbW.out.size)
  have hc3 : Hd (ErrV w3 (.iface 48 (.pointer (some ⟨w.heap.size, 0, none⟩)))) := hcW.out.below h3
  have hF3 : Hd (F.answers w3.tape) := by unfold Hd; rw [hb3.out.tape]; exact hF
  have hr3 : Hd (w3.rangeAt w2.heap.size 0 (dayL a b c d e f (.iface 48 (.pointer (some ⟨w.heap.size, 0, none⟩))))) := st3.out.r
  have hs3 : Hd (w3.rangeAt (w2.heap.size + 1) 0 [.int .i64 y, .int .i64 m, .int .i64 u]) := st3.out.s
  go_upto_region 6 with first
    | ((with_reducible refine wpList_load_mid rfl 31 (.tmp 22) rfl w2.heap.size 0 ?_ (dayL a b c d e f (.iface 48 (.pointer (some ⟨w.heap.size, 0, none⟩)))) _ ?_ Ybaf.underlying31 ?_ ?_ ?_); (exact rfl); (exact hr3.out); (exact rfl); (exact inf31 ..))
    | ((with_reducible refine wpList_load_mid rfl 27 (.tmp 23) rfl (w2.heap.size + 1) 0 ?_ [.int .i64 y, .int .i64 m, .int .i64 u] _ ?_ Ybaf.underlying27 ?_ ?_ ?_); (exact rfl); (exact hs3.out); (exact rfl); (exact inf27 ..))
    | (go_at_call 11; refine (onor_any F a b c d e f y m u (.iface 48 (.pointer (some ⟨w.heap.size, 0, none⟩))) w3 hF3.out hc3.out).mono ?_; rintro x w4 ⟨o2, z2, rfl, h4, sne2⟩; have T2 : Hd _ := sne2; clear sne2)
  have hb4 : Below w.heap.size w w4 := hb3.out.trans (h4.mono hb3.out.size)
  obtain ⟨s1, n1, e1⟩ := T1.out
  obtain ⟨s2, n2, e2⟩ := T2.out
  clear T1 T2
  clear st hr hs st3 hr3 hs3 hc3 hF3 hb3 hcW hFW hbW h2 h3 h4 hbV hcV hF
  generalize dcmp ⟨a, b, c⟩ ⟨y, m, u⟩ = C1 at s1 n1 e1 s2 n2 e2
  generalize dcmp ⟨d, e, f⟩ ⟨y, m, u⟩ = C2 at s1 n1 e1 s2 n2 e2
  have key : (o1 = true ∧ z1 = .nilIface ∧ o2 = true ∧ z2 = .nilIface) ∨ (o1 = false ∧ z1 = .nilIface ∧ o2 = false ∧ z2 = .nilIface) ∨ (o1 = false ∧ o2 = true) ∨ (o1 = false ∧ ∃ p, z2 = .iface 73 (.pointer (some p))) := by
    by_cases A1 : 0 < C1
    · exact .inl ⟨s1.2 A1, n1 (.inl A1), s2.2 (by omega), n2 (.inl (by omega))⟩
    · have o1f : o1 = false := by cases o1; rfl; exact absurd (s1.1 rfl) A1
      by_cases A2 : 0 ≤ C1
      · exact .inr (.inr (.inl ⟨o1f, s2.2 A2⟩))
      · by_cases B2 : C2 < 0
        · have o2f : o2 = false := by cases o2; rfl; exact absurd (s2.1 rfl) A2
          exact .inr (.inl ⟨o1f, n1 (.inr (by omega)), o2f, n2 (.inr B2)⟩)
        · obtain ⟨k, hk, _⟩ := e2 (by omega) (by omega)
          exact .inr (.inr (.inr ⟨o1f, _, hk⟩))
  have hz1 : z1 = .nilIface ∨ ∃ p, z1 = .iface 73 (.pointer (some p)) := by
    by_cases A1 : 0 < C1 ∨ C2 ≤ 0
    · exact .inl (n1 A1)
    · obtain ⟨k, hk, _⟩ := e1 (by omega) (by omega)
      exact .inr ⟨_, hk⟩
  have hz2 : z2 = .nilIface ∨ ∃ p, z2 = .iface 73 (.pointer (some p)) := by
    by_cases A1 : 0 ≤ C1 ∨ C2 < 0
    · exact .inl (n2 A1)
    · obtain ⟨k, hk, _⟩ := e2 (by omega) (by omega)
      exact .inr ⟨_, hk⟩
  clear s1 n1 e1 s2 n2 e2
  rcases key with ⟨rfl, rfl, rfl, rfl⟩ | ⟨rfl, rfl, rfl, rfl⟩ | ⟨rfl, rfl⟩ | ⟨rfl, p, rfl⟩
  · clear hz1 hz2
    go_wp2
    go_ret
    exact ⟨rfl, hb4⟩
  · clear hz1 hz2
    go_wp2
    go_ret
    exact ⟨rfl, hb4⟩
  · rcases hz1 with rfl | ⟨p, rfl⟩ <;> rcases hz2 with rfl | ⟨q, rfl⟩ <;> (go_wp2; go_ret; exact ⟨rfl, hb4⟩)
  · clear hz2
    rcases hz1 with rfl | ⟨p, rfl⟩ <;> (go_wp2; go_ret; exact ⟨rfl, hb4⟩)

end Go.Proofs.YbulkcsfqFmt.Fa
