/-
  OWN TEXT. LawS4690CGather: the vote's statement by the replica's road.
-/
import Derived.Test.YbulkcsckGaB
import Derived.Lib.AppendStr
import Derived.Laws.MakeOwn
import Derived.Laws.OwnMore
namespace Go.Proofs.Ybulkcsck.Ga
open Go.RowKit

def nameS : ByteArray := ⟨#[113, 117, 97, 100, 114, 105, 108, 108, 101, 32, 118, 111, 116, 101]⟩

/-- make([]byte, 0, 71), the name, a zero -/
theorem head47 (w : World) : ∃ Z p1 c1 w1 p2 c2 w2,
    (Instr.makeSlice 37 (.int .i64 0) (.int .i64 71)).run Yba.prog w = .ok (.slice (some ⟨w.heap.size, 0, none⟩) 0 71) (w.alloc (.cells Z 5)) ∧
    (Builtin.append_ #[37, 9] 37 #[.slice (some ⟨w.heap.size, 0, none⟩) 0 71, .string nameS]).run Yba.prog (w.alloc (.cells Z 5)) = .ok (.slice p1 14 c1) w1 ∧
    (Builtin.append_ #[37, 37] 37 #[.slice p1 14 c1, .slice (some ⟨w1.heap.size, 0, none⟩) 1 1]).run Yba.prog (w1.alloc (.cells #[.int .u8 0] 5)) = .ok (.slice p2 15 c2) w2 ∧
    w2.ownsRow w.heap.size 5 1 (.slice p2 15 c2) 15 (u8s (nameL ++ [0])) ∧ Below w.heap.size w w2 := by
  obtain ⟨i, hi, hz, hsz, hby⟩ := info5
  have hmk := run_make (P := Yba.prog) w 37 5 i _ Yba.underlying37 hi hz .i64 .i64 0 71 (by omega) (by omega) (by rw [hby]; omega) (by omega)
  have hm : w.heap.size < (w.alloc (.cells (madeCells (Value.int .u8 0).cells ((71 : Int).toNat * i.size)) 5)).heap.size := by simp
  have o0 : (w.alloc (.cells (madeCells (Value.int .u8 0).cells ((71 : Int).toNat * i.size)) 5)).ownsRow w.heap.size 5 1 (.slice (some ⟨w.heap.size, 0, none⟩) 0 71) 0 [] :=
    ⟨by simp, .inr ⟨w.heap.size, 71, _, rfl, Nat.le_refl _, heap_alloc_new w _, by decide, by decide, by rw [size_madeCells, hsz]; rfl, by simp⟩⟩
  have b0 : Below w.heap.size w (w.alloc (.cells (madeCells (Value.int .u8 0).cells ((71 : Int).toNat * i.size)) 5)) := (Below.refl _ w).alloc (Nat.le_refl _) _
  obtain ⟨v1, w1, hr1, ho1, hg1, _⟩ := Lib.run_append_own_string (P := Yba.prog) (w.alloc (.cells (madeCells (Value.int .u8 0).cells ((71 : Int).toNat * i.size)) 5)) w.heap.size 37 9 37 5 i Yba.underlying37 Yba.underlying9 hi hz hsz hby _ 0 [] o0 nameS (by decide) (by decide) b0.size
  obtain ⟨p1, c1, rfl⟩ := owns_shape ho1
  have b1 : Below w.heap.size w w1 := b0.grown hg1 b0.size (owns_block o0)
  have e1 : ([] : List Value) ++ Lib.strCells nameS = u8s nameL := by kernel_rfl
  rw [e1] at ho1
  have b1' : Below w1.heap.size w1 (w1.alloc (.cells #[.int .u8 0] 5)) := (Below.refl _ _).alloc (Nat.le_refl _) _
  obtain ⟨p2, c2, w2, hr2, ho2, hb2⟩ := app5 (owns_below ho1 b1') (Nat.le_trans b1.size b1'.size) (by decide) 37 ⟨w1.heap.size, 0, none⟩ 1 1 [0] rfl (by decide) (fun j u hj => new_cell w1 [Value.int .u8 0] 5 _ rfl hj)
  have e2 : u8s nameL ++ u8s [0] = u8s (nameL ++ [0]) := by simp [u8s]
  rw [e2] at ho2
  exact ⟨_, p1, c1, w1, p2, c2, w2, hmk, hr1, hr2, ho2, (b1.trans (b1'.mono b1.size)).trans hb2⟩

set_option maxRecDepth 100000 in
set_option maxHeartbeats 1600000 in
/-- Statement(voteStatement, a, b, c) -/
theorem stmt47 (vb : Nat) (a b c : Int) (w : World) (hv : vb < w.heap.size) (h0 : w.cell? ⟨vb, 0, none⟩ = some (.int .i64 a)) (h1 : w.cell? ⟨vb, 1, none⟩ = some (.int .i64 b)) (h2 : w.cell? ⟨vb, 2, none⟩ = some (.int .i64 c)) :
    Calls Yba.prog 47 #[.string nameS, .slice (some ⟨vb, 0, none⟩) 3 3] w (OwnP w.heap.size w 39 ((((u8s (nameL ++ [0])) ++ u8s (be8 (a % 18446744073709551616))) ++ u8s (be8 (b % 18446744073709551616))) ++ u8s (be8 (c % 18446744073709551616)))) := by
  obtain ⟨Z, p0, c0, w0, p2, c2, w2, hmk, hr1, hr2, ho2, hb2⟩ := head47 w
  have HR1 : Hid ((Builtin.append_ #[37, 9] 37 #[.slice (some ⟨w.heap.size, 0, none⟩) 0 71, .string nameS]).run Yba.prog (w.alloc (.cells Z 5)) = .ok (.slice p0 14 c0) w0) := hr1
  have HR2 : Hid ((Builtin.append_ #[37, 37] 37 #[.slice p0 14 c0, .slice (some ⟨w0.heap.size, 0, none⟩) 1 1]).run Yba.prog (w0.alloc (.cells #[.int .u8 0] 5)) = .ok (.slice p2 15 c2) w2) := hr2
  have O2 : Hid (w2.ownsRow w.heap.size 5 1 (.slice p2 15 c2) 15 (u8s (nameL ++ [0]))) := ho2
  have B2 : Hid (Below w.heap.size w w2) := hb2
  have hsz : nameS.size = 14 := rfl
  clear hr1 hr2 ho2 hb2
  go_enter Yba.func47, Yba.ntmps47
  go_upto_region 3 with first
    | (at_builtin; (with_reducible refine wpList_append_any ?_ (.tmp 17) (.tmp 18) 37 9 37 ?_ ?_ (v := .slice (some ⟨w.heap.size, 0, none⟩) 0 71) (y := .string nameS) ?_ ?_ HR1.out ?_); (first | exact rfl | skip); (first | exact rfl | skip); (first | exact rfl | skip); (first | exact rfl | skip); (first | exact rfl | skip))
    | (at_builtin; (with_reducible refine wpList_append_any ?_ (.tmp 19) (.tmp 20) 37 37 37 ?_ ?_ (v := .slice p0 14 c0) (y := .slice (some ⟨w0.heap.size, 0, none⟩) 1 1) ?_ ?_ HR2.out ?_); (first | exact rfl | skip); (first | exact rfl | skip); (first | exact rfl | skip); (first | exact rfl | skip); (first | exact rfl | skip))
  clear HR1 HR2 hmk hsz
  have va2 : w2.cell? ⟨vb, 0, none⟩ = some (.int .i64 a) := (B2.out.cell (p := ⟨vb, 0, none⟩) hv).trans h0
  have vb2 : w2.cell? ⟨vb, 1, none⟩ = some (.int .i64 b) := (B2.out.cell (p := ⟨vb, 1, none⟩) hv).trans h1
  have vc2 : w2.cell? ⟨vb, 2, none⟩ = some (.int .i64 c) := (B2.out.cell (p := ⟨vb, 2, none⟩) hv).trans h2
  go_wp2_with fail
  refine wp_loop_rounds 4 ?_
  rw [rounds_succ]
  go_wp2_with (go_at_call 32; refine (app64 w.heap.size _ 15 (u8s (nameL ++ [0])) (a % 18446744073709551616) w2 O2.out B2.out.size (by decide) (by omega) (by omega)).mono ?_; rintro x w3 ⟨v3, rfl, ho, hb⟩; obtain ⟨p3, c3, rfl⟩ := owns_shape ho; have O3 : Hid (w3.ownsRow w.heap.size 5 1 (.slice p3 23 c3) 23 ((u8s (nameL ++ [0])) ++ u8s (be8 (a % 18446744073709551616)))) := ho; have B3 : Hid (Below w.heap.size w w3) := B2.out.trans hb; clear ho hb)
  clear va2 vb2 vc2
  have va3 : w3.cell? ⟨vb, 0, none⟩ = some (.int .i64 a) := (B3.out.cell (p := ⟨vb, 0, none⟩) hv).trans h0
  have vb3 : w3.cell? ⟨vb, 1, none⟩ = some (.int .i64 b) := (B3.out.cell (p := ⟨vb, 1, none⟩) hv).trans h1
  have vc3 : w3.cell? ⟨vb, 2, none⟩ = some (.int .i64 c) := (B3.out.cell (p := ⟨vb, 2, none⟩) hv).trans h2
  rw [rounds_succ]
  go_wp2_with (go_at_call 32; refine (app64 w.heap.size _ 23 ((u8s (nameL ++ [0])) ++ u8s (be8 (a % 18446744073709551616))) (b % 18446744073709551616) w3 O3.out B3.out.size (by decide) (by omega) (by omega)).mono ?_; rintro x w4 ⟨v4, rfl, ho, hb⟩; obtain ⟨p4, c4, rfl⟩ := owns_shape ho; have O4 : Hid (w4.ownsRow w.heap.size 5 1 (.slice p4 31 c4) 31 (((u8s (nameL ++ [0])) ++ u8s (be8 (a % 18446744073709551616))) ++ u8s (be8 (b % 18446744073709551616)))) := ho; have B4 : Hid (Below w.heap.size w w4) := B3.out.trans hb; clear ho hb)
  clear va3 vb3 vc3
  have va4 : w4.cell? ⟨vb, 0, none⟩ = some (.int .i64 a) := (B4.out.cell (p := ⟨vb, 0, none⟩) hv).trans h0
  have vb4 : w4.cell? ⟨vb, 1, none⟩ = some (.int .i64 b) := (B4.out.cell (p := ⟨vb, 1, none⟩) hv).trans h1
  have vc4 : w4.cell? ⟨vb, 2, none⟩ = some (.int .i64 c) := (B4.out.cell (p := ⟨vb, 2, none⟩) hv).trans h2
  rw [rounds_succ]
  go_wp2_with (go_at_call 32; refine (app64 w.heap.size _ 31 (((u8s (nameL ++ [0])) ++ u8s (be8 (a % 18446744073709551616))) ++ u8s (be8 (b % 18446744073709551616))) (c % 18446744073709551616) w4 O4.out B4.out.size (by decide) (by omega) (by omega)).mono ?_; rintro x w5 ⟨v5, rfl, ho, hb⟩; obtain ⟨p5, c5, rfl⟩ := owns_shape ho; have O5 : Hid (w5.ownsRow w.heap.size 5 1 (.slice p5 39 c5) 39 ((((u8s (nameL ++ [0])) ++ u8s (be8 (a % 18446744073709551616))) ++ u8s (be8 (b % 18446744073709551616))) ++ u8s (be8 (c % 18446744073709551616)))) := ho; have B5 : Hid (Below w.heap.size w w5) := B4.out.trans hb; clear ho hb)
  clear va4 vb4 vc4
  rw [rounds_succ]
  go_wp2
  go_ret
  exact ⟨_, rfl, O5.out, B5.out⟩
end Go.Proofs.Ybulkcsck.Ga
