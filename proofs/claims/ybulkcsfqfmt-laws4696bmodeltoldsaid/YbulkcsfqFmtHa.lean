/-
  OWN TEXT. errors.Is at a wrapping error that wraps the target itself, after the worked SentryIs.
-/
import Derived.Test.YbulkcsfqFmtGd
import Derived.LaidEql
import Derived.Stop.Asserts
import Derived.RowKitTokens
namespace Go.Proofs.YbulkcsfqFmt.Fa
open Go.RowKit Go.Extern.Stop Go.Stop Go.Extern

theorem isTypeOf (v : Value) (w : World) : (callFunc 15 #[.iface 48 v]).run Ybaf.prog w = .ok (.value (.iface 63 (.agg #[.pointer (some ⟨0, 48, none⟩)]))) w := by
  rw [@run_callFunc_extern Ybaf.prog 15 _ Extern.ReflectliteType.typeOf Ybaf.func15 (by kernel_rfl) (by kernel_rfl) (by kernel_rfl) (by kernel_rfl)]
  have h : (Extern.ReflectliteType.typeOf #[.iface 48 v]).run Ybaf.prog w = .ok (.iface 63 (.agg #[.pointer (some ⟨0, 48, none⟩)])) w := by kernel_rfl
  rw [h]
  rfl
theorem isComparable (w : World) : (callFunc 51 #[.agg #[.pointer (some ⟨0, 48, none⟩)]]).run Ybaf.prog w = .ok (.value (.bool true)) w := by
  rw [@run_callFunc_extern Ybaf.prog 51 _ (Extern.ReflectliteType.method fun t => do Go.Extern.Rtype.noPackHeld "Comparable" t; pure (.bool (← typeInfo t).comparable)) Ybaf.func51 (by kernel_rfl) (by kernel_rfl) (by kernel_rfl) (by kernel_rfl)]
  have h : ((Extern.ReflectliteType.method fun t => do Go.Extern.Rtype.noPackHeld "Comparable" t; pure (.bool (← typeInfo t).comparable)) #[.agg #[.pointer (some ⟨0, 48, none⟩)]]).run Ybaf.prog w = .ok (.bool true) w := by kernel_rfl
  rw [h]
  rfl
theorem isMethodComparable (v : Value) (w : World) : (Go.method 214 63 v "Comparable").run Ybaf.prog w = .ok (51, v) w := by kernel_rfl
theorem isComp : (Ybaf.prog.info? 48).map (·.comparable) = some true := by kernel_rfl
theorem isSize : (Ybaf.prog.info? 50).map (·.size) = some 1 := by kernel_rfl
theorem noIsW (v : Value) (xT : TypeId) (w : World) : (Instr.typeAssert (.iface 73 v) xT 65 true).run Ybaf.prog w = .ok (.tuple #[.nilIface, .bool false]) w := run_typeAssert_lacksB Ybaf.underlying65 (by kernel_rfl) (by kernel_rfl) v xT w
theorem hasUnwrapW (v : Value) (xT : TypeId) (w : World) : (Instr.typeAssert (.iface 73 v) xT 68 true).run Ybaf.prog w = .ok (.tuple #[.iface 73 v, .bool true]) w := run_typeAssert_hasB Ybaf.underlying68 (by kernel_rfl) v xT w
theorem methodUnwrap (v : Value) (w : World) : (Go.method 214 73 v "Unwrap").run Ybaf.prog w = .ok (61, v) w := by kernel_rfl

/-- errors.Is(e, x), e a *fmt.wrapError that wraps x itself: one Unwrap, then equal. -/
theorem is_wrap_same (pb : Nat) (b : Addr) (w : World) (h1 : w.cell? ⟨pb, 1, none⟩ = some (.iface 48 (.pointer (some b)))) :
    Calls Ybaf.prog 10 #[.iface 73 (.pointer (some ⟨pb, 0, none⟩)), .iface 48 (.pointer (some b))] w fun e w' => e = .returned (.bool true) ∧ w' = w := by
  obtain ⟨i, hi, hcmp⟩ := Option.map_eq_some_iff.1 isComp
  obtain ⟨j, hj, hjs⟩ := Option.map_eq_some_iff.1 isSize
  have tT := isTypeOf
  have cT := isComparable
  have mR := isMethodComparable
  have nW := noIsW
  have uW := hasUnwrapW
  have mU := methodUnwrap
  have heq := run_eql_iface_ptr_same (P := Ybaf.prog) w b Ybaf.underlying23 Ybaf.underlying48 hi hcmp hj
  have hty := run_eql_iface_types (P := Ybaf.prog) 73 48 (.pointer (some ⟨pb, 0, none⟩)) (.pointer (some b)) Ybaf.underlying23 (by decide) w
  go_enter Ybaf.func10, Ybaf.ntmps10
  go_wp2
  refine wp_loop_rounds 2 ?_
  rw [rounds_succ]
  go_wp2
  rw [rounds_succ]
  go_wp2
  go_ret
  exact ⟨rfl, rfl⟩

set_option maxRecDepth 100000 in
set_option maxHeartbeats 1600000 in
/-- the law's own order on dates -/
theorem own_cmp (a b : Dt) (w : World) :
    Calls Ybaf.prog 9 #[.agg #[.int .i64 a.y, .int .i64 a.m, .int .i64 a.d], .agg #[.int .i64 b.y, .int .i64 b.m, .int .i64 b.d]] w fun e w' => e = .returned (.int .i64 (dcmp a b)) ∧ Below w.heap.size w w' := by
  obtain ⟨y, m, d⟩ := a
  obtain ⟨y', m', d'⟩ := b
  have e1 : Hd (dcmp ⟨y, m, d⟩ ⟨y', m', d'⟩ = or3 (cmpI y y') (cmpI m m') (cmpI d d')) := rfl
  have hb : Hd (∀ A B, Below w.heap.size w ((w.alloc A).alloc B)) := fun A B => ((Below.refl _ _).alloc (Nat.le_refl _) _).alloc (by simp) _
  generalize dcmp ⟨y, m, d⟩ ⟨y', m', d'⟩ = R at e1 ⊢
  have fin : ∀ v : Int, Hd (((y < y' ∨ (y = y' ∧ (m < m' ∨ (m = m' ∧ d < d')))) → v = -1) ∧ ((y' < y ∨ (y = y' ∧ (m' < m ∨ (m = m' ∧ d' < d)))) → v = 1) ∧ (y = y' → m = m' → d = d' → v = 0) → v = R) := by
    intro v
    unfold Hd
    rw [e1.out]
    unfold or3 orI cmpI
    intro h
    split <;> (repeat' split) <;> omega
  by_cases hy : y = y'
  · by_cases hm : m = m'
    · by_cases hd : d = d'
      · subst hy hm hd
        go_enter Ybaf.func9, Ybaf.ntmps9
        go_wp2
        all_goals (go_ret; exact ⟨ret_int ((fin _).out (by omega)), hb.out _ _⟩)
      · subst hy hm
        go_enter Ybaf.func9, Ybaf.ntmps9
        go_wp2
        all_goals (go_ret; exact ⟨ret_int ((fin _).out (by omega)), hb.out _ _⟩)
    · subst hy
      go_enter Ybaf.func9, Ybaf.ntmps9
      go_wp2
      all_goals (go_ret; exact ⟨ret_int ((fin _).out (by omega)), hb.out _ _⟩)
  · go_enter Ybaf.func9, Ybaf.ntmps9
    go_wp2
    all_goals (go_ret; exact ⟨ret_int ((fin _).out (by omega)), hb.out _ _⟩)
end Go.Proofs.YbulkcsfqFmt.Fa
