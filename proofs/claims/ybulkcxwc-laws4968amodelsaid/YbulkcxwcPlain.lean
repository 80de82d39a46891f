import Derived.WalkKit
import Derived.WalkSpells
import Derived.Below
import Derived.OpenShut
namespace Go.Proofs.Ybulkcxwc
open Go.RowKit

/-- The range of an int64. -/
def In64 (n : Int) : Prop := -9223372036854775808 ≤ n ∧ n ≤ 9223372036854775807
theorem in64_wrap (n : Int) : In64 (wrap64 n) := by unfold In64 wrap64; omega
theorem in64_of_wf {n : Int} (h : (Lit.int .i64 n).wf = true) : In64 n := by
  have := bounds_i64 h; unfold In64; omega
theorem wrap64_id {n : Int} (h : In64 n) : wrap64 n = n := by unfold In64 at h; unfold wrap64; omega

theorem bits_xor_m1 (a : Int) (h : In64 a) : bits .xor .i64 (-1) a = -1 - a := by
  unfold In64 at h
  show IntKind.i64.wrap ((BitVec.ofInt 64 (-1) ^^^ BitVec.ofInt 64 a).toNat : Int) = _
  have h1 : BitVec.ofInt 64 (-1) = BitVec.allOnes 64 := by decide
  rw [h1, BitVec.allOnes_xor, BitVec.toNat_not, BitVec.toNat_ofInt]
  simp [IntKind.wrap, IntKind.bits, IntKind.signed]
  omega
theorem bits_xor_m1' (a : Int) (h : In64 a) : bits .xor .i64 a (-1) = -1 - a := by
  unfold In64 at h
  show IntKind.i64.wrap ((BitVec.ofInt 64 a ^^^ BitVec.ofInt 64 (-1)).toNat : Int) = _
  have h1 : BitVec.ofInt 64 (-1) = BitVec.allOnes 64 := by decide
  rw [h1, BitVec.xor_allOnes, BitVec.toNat_not, BitVec.toNat_ofInt]
  simp [IntKind.wrap, IntKind.bits, IntKind.signed]
  omega
theorem bits_xor_0' (a : Int) (h : In64 a) : bits .xor .i64 a 0 = a := by
  unfold In64 at h
  show IntKind.i64.wrap ((BitVec.ofInt 64 a ^^^ BitVec.ofInt 64 0).toNat : Int) = _
  have h1 : BitVec.ofInt 64 0 = 0#64 := by decide
  rw [h1, BitVec.xor_zero, BitVec.toNat_ofInt]
  simp [IntKind.wrap, IntKind.bits, IntKind.signed]
  omega

/-- One step. -/
def stX (x y : Int) (s : Nat) (b : Bool) : Int := if b then wrap64 (x - y / 2 ^ s) else wrap64 (x + y / 2 ^ s)
def stY (x y : Int) (s : Nat) (b : Bool) : Int := if b then wrap64 (y - wrap64 (x % 18446744073709551616 / 2 ^ s)) else wrap64 (y + wrap64 (x % 18446744073709551616 / 2 ^ s))
def stZ (z a : Int) (b : Bool) : Int := if b then wrap64 (z + a) else wrap64 (z - a)
def bkB (y z : Int) (vec : Bool) : Bool := if vec then decide (0 ≤ y) else decide (z < 0)
def dir (b : Bool) : Int := if b then -1 else 0

theorem in64_stX (x y : Int) (s : Nat) (b : Bool) : In64 (stX x y s b) := by unfold stX; split <;> exact in64_wrap _
theorem in64_stY (x y : Int) (s : Nat) (b : Bool) : In64 (stY x y s b) := by unfold stY; split <;> exact in64_wrap _
theorem in64_stZ (z a : Int) (b : Bool) : In64 (stZ z a b) := by unfold stZ; split <;> exact in64_wrap _

theorem in64_div (y : Int) (s : Nat) (h : In64 y) : In64 (y / 2 ^ s) := by
  unfold In64 at *
  have hp : (0 : Int) < 2 ^ s := Int.pow_pos (by decide)
  have h1 : (1 : Int) ≤ 2 ^ s := by omega
  constructor
  · rw [Int.le_ediv_iff_mul_le hp]
    have : (-9223372036854775808 : Int) * 2 ^ s ≤ -9223372036854775808 * 1 := Int.mul_le_mul_of_nonpos_left (by decide) h1
    omega
  · by_cases hy : 0 ≤ y
    · exact Int.le_trans (Int.ediv_le_self _ hy) h.2
    · have : y / 2 ^ s < 0 := Int.ediv_neg_of_neg_of_pos (by omega) hp
      omega

theorem wrap64_add_m (a b : Int) : wrap64 (wrap64 a + b) = wrap64 (a + b) := by unfold wrap64; omega
theorem wrap64_sub_m (a b : Int) : wrap64 (wrap64 a - b) = wrap64 (a - b) := by unfold wrap64; omega

end Go.Proofs.Ybulkcxwc
