/-
  OWN TEXT. LawS4690AReport: the plain law on bits.
-/
import Derived.Test.YbulkcsckRepI
namespace Go.Proofs.Ybulkcsck
open Go.RowKit

theorem ofInt_wrap_i64 (r : BitVec 64) : BitVec.ofInt 64 (IntKind.i64.wrap r.toNat) = r := by
  rw [IntKind.wrap_i64]
  apply BitVec.eq_of_toNat_eq
  rw [BitVec.toNat_ofInt]
  have := r.isLt
  omega
theorem xor1_i64 (x : Int) : bits .xor .i64 x 1 ≠ x := by
  intro h
  have h1 : BitVec.ofInt 64 (bits .xor .i64 x 1) = BitVec.ofInt 64 x := by rw [h]
  have h2 : BitVec.ofInt 64 (bits .xor .i64 x 1) = BitVec.ofInt 64 x ^^^ 1#64 := ofInt_wrap_i64 (BitVec.ofInt 64 x ^^^ BitVec.ofInt 64 1)
  rw [h2] at h1
  have h3 := congrArg (fun z => BitVec.ofInt 64 x ^^^ z) h1
  simp only [← BitVec.xor_assoc, BitVec.xor_self, BitVec.zero_xor] at h3
  exact absurd h3 (by decide)
theorem ofInt_wrap_u8 (r : BitVec 8) : BitVec.ofInt 8 (IntKind.u8.wrap r.toNat) = r := by
  rw [IntKind.wrap_u8]
  apply BitVec.eq_of_toNat_eq
  rw [BitVec.toNat_ofInt]
  have := r.isLt
  omega
theorem xor1_u8 (x : Int) : bits .xor .u8 x 1 ≠ x := by
  intro h
  have h1 : BitVec.ofInt 8 (bits .xor .u8 x 1) = BitVec.ofInt 8 x := by rw [h]
  have h2 : BitVec.ofInt 8 (bits .xor .u8 x 1) = BitVec.ofInt 8 x ^^^ 1#8 := ofInt_wrap_u8 (BitVec.ofInt 8 x ^^^ BitVec.ofInt 8 1)
  rw [h2] at h1
  have h3 := congrArg (fun z => BitVec.ofInt 8 x ^^^ z) h1
  simp only [← BitVec.xor_assoc, BitVec.xor_self, BitVec.zero_xor] at h3
  exact absurd h3 (by decide)

theorem fx_i64 (b : Bool) (x : Int) : (x == fx .i64 b x) = !b := by
  cases b
  · simp [fx]
  · have := xor1_i64 x
    simp only [fx, if_true, Bool.not_true, beq_eq_false_iff_ne]
    exact fun h => this h.symm
theorem fx_u8 (b : Bool) (x : Int) : (x == fx .u8 b x) = !b := by
  cases b
  · simp [fx]
  · have := xor1_u8 x
    simp only [fx, if_true, Bool.not_true, beq_eq_false_iff_ne]
    exact fun h => this h.symm
theorem fb_eq (b x : Bool) : (x == fb b x) = !b := by cases b <;> cases x <;> rfl

theorem cmpI_zero (x y : Int) : (cmpI x y = 0) ↔ x = y := by
  unfold cmpI
  split
  · constructor
    · intro h; cases h
    · intro h; omega
  · split
    · constructor
      · intro h; cases h
      · intro h; omega
    · constructor <;> intro _ <;> first | omega | rfl
theorem orI_eq_zero (x y : Int) : (orI x y = 0) ↔ x = 0 ∧ y = 0 := by
  unfold orI
  split
  · rename_i h; simp [h]
  · rename_i h; simp [h]
theorem namesB_eq (q r : Qc) : namesB q r = (q.ep == r.ep && q.vw == r.vw && q.st == r.st && q.bl == r.bl) := by
  unfold namesB qcmp rankI
  have : (orI (orI (cmpI q.ep r.ep) (cmpI q.vw r.vw)) (cmpI q.st r.st) == 0) = (q.ep == r.ep && q.vw == r.vw && q.st == r.st) := by
    rw [Bool.eq_iff_iff]
    simp only [beq_iff_eq, orI_eq_zero, cmpI_zero, Bool.and_eq_true]
  rw [this]

theorem bitB_eq (m : Int) (i : Nat) (h0 : 0 ≤ m) (h1 : m < 4294967296) : bitB m i = ((m / 2 ^ i) % 2 == 1) := by
  unfold bitB
  have hp : (0 : Int) < 2 ^ i := Int.pow_pos (by decide)
  have hd0 : 0 ≤ m / 2 ^ i := Int.ediv_nonneg h0 (Int.le_of_lt hp)
  have hd1 : m / 2 ^ i < 4294967296 := Int.lt_of_le_of_lt (Int.ediv_le_self _ h0) h1
  have := bits_mask .u32 32 (by decide) (fun n a b => by rw [IntKind.wrap_u32]; omega) 1 (by decide) (m / 2 ^ i) hd0 hd1
  rw [show ((2 : Int) ^ 1 - 1) = 1 from rfl, show ((2 : Int) ^ 1) = 2 from rfl] at this
  rw [this]
def wantB (m : Int) : Bool := bits .and .u32 m 262143 == 0
theorem wantB_eq (m : Int) (h0 : 0 ≤ m) (h1 : m < 4294967296) : wantB m = (m % 262144 == 0) := by
  unfold wantB
  have := bits_mask .u32 32 (by decide) (fun n a b => by rw [IntKind.wrap_u32]; omega) 18 (by decide) m h0 h1
  rw [show ((2 : Int) ^ 18 - 1) = 262143 from rfl, show ((2 : Int) ^ 18) = 262144 from rfl] at this
  rw [this]

theorem want_bits (m : Int) (h0 : 0 ≤ m) (h1 : m < 4294967296) : wantB m = (!bitB m 0 && !bitB m 1 && !bitB m 2 && !bitB m 3 && !bitB m 4 && !bitB m 5 && !bitB m 6 && !bitB m 7 && !bitB m 8 && !bitB m 9 && !bitB m 10 && !bitB m 11 && !bitB m 12 && !bitB m 13 && !bitB m 14 && !bitB m 15 && !bitB m 16 && !bitB m 17) := by
  rw [wantB_eq m h0 h1]
  simp only [bitB_eq m _ h0 h1]
  rw [Bool.eq_iff_iff]
  have s0 : m % 2 = 0 ↔ (m % 1 = 0 ∧ ¬ (m / 1) % 2 = 1) := by omega
  have s1 : m % 4 = 0 ↔ (m % 2 = 0 ∧ ¬ (m / 2) % 2 = 1) := by omega
  have s2 : m % 8 = 0 ↔ (m % 4 = 0 ∧ ¬ (m / 4) % 2 = 1) := by omega
  have s3 : m % 16 = 0 ↔ (m % 8 = 0 ∧ ¬ (m / 8) % 2 = 1) := by omega
  have s4 : m % 32 = 0 ↔ (m % 16 = 0 ∧ ¬ (m / 16) % 2 = 1) := by omega
  have s5 : m % 64 = 0 ↔ (m % 32 = 0 ∧ ¬ (m / 32) % 2 = 1) := by omega
  have s6 : m % 128 = 0 ↔ (m % 64 = 0 ∧ ¬ (m / 64) % 2 = 1) := by omega
  have s7 : m % 256 = 0 ↔ (m % 128 = 0 ∧ ¬ (m / 128) % 2 = 1) := by omega
  have s8 : m % 512 = 0 ↔ (m % 256 = 0 ∧ ¬ (m / 256) % 2 = 1) := by omega
  have s9 : m % 1024 = 0 ↔ (m % 512 = 0 ∧ ¬ (m / 512) % 2 = 1) := by omega
  have s10 : m % 2048 = 0 ↔ (m % 1024 = 0 ∧ ¬ (m / 1024) % 2 = 1) := by omega
  have s11 : m % 4096 = 0 ↔ (m % 2048 = 0 ∧ ¬ (m / 2048) % 2 = 1) := by omega
  have s12 : m % 8192 = 0 ↔ (m % 4096 = 0 ∧ ¬ (m / 4096) % 2 = 1) := by omega
  have s13 : m % 16384 = 0 ↔ (m % 8192 = 0 ∧ ¬ (m / 8192) % 2 = 1) := by omega
  have s14 : m % 32768 = 0 ↔ (m % 16384 = 0 ∧ ¬ (m / 16384) % 2 = 1) := by omega
  have s15 : m % 65536 = 0 ↔ (m % 32768 = 0 ∧ ¬ (m / 32768) % 2 = 1) := by omega
  have s16 : m % 131072 = 0 ↔ (m % 65536 = 0 ∧ ¬ (m / 65536) % 2 = 1) := by omega
  have s17 : m % 262144 = 0 ↔ (m % 131072 = 0 ∧ ¬ (m / 131072) % 2 = 1) := by omega
  simp only [Bool.and_eq_true, Bool.not_eq_true', beq_eq_false_iff_ne, beq_iff_eq, Int.reducePow, ne_eq, s17, s16, s15, s14, s13, s12, s11, s10, s9, s8, s7, s6, s5, s4, s3, s2, s1, s0]
  simp only [Int.emod_one, true_and, and_assoc]
end Go.Proofs.Ybulkcsck
