import Derived.Test.YbulkcxwcDoorRows
import Derived.Test.YbulkcxwcDoorPlain
namespace Go.Proofs.YbulkcxwcDoor
open Go.RowKit

/-- Mul64 by ten. -/
def Mul10 : Prop := ∀ (x : Nat) (w : World), x < 18446744073709551616 → Calls Ybad.prog 11 #[.int .u64 x, .int .u64 10] w fun e w' => e = .returned (.tuple #[.int .u64 ((x * 10 / 18446744073709551616 : Nat) : Int), .int .u64 ((x * 10 % 18446744073709551616 : Nat) : Int)]) ∧ w' = w

theorem ret1 {k : IntKind} {a a' : Int} (h1 : a = a') : Ending.returned (.int k a) = .returned (.int k a') := by rw [h1]
theorem ret2 {k l : IntKind} {a b a' b' : Int} (h1 : a = a') (h2 : b = b') : Ending.returned (.tuple #[.int k a, .int l b]) = .returned (.tuple #[.int k a', .int l b']) := by rw [h1, h2]

theorem xor_m1' (a : Int) (h0 : -9223372036854775808 ≤ a) (h1 : a ≤ 9223372036854775807) : bits .xor .i64 a (-1) = -1 - a := by
  show IntKind.i64.wrap ((BitVec.ofInt 64 a ^^^ BitVec.ofInt 64 (-1)).toNat : Int) = _
  have h1 : BitVec.ofInt 64 (-1) = BitVec.allOnes 64 := by decide
  rw [h1, BitVec.xor_allOnes, BitVec.toNat_not, BitVec.toNat_ofInt]
  simp [IntKind.wrap, IntKind.bits, IntKind.signed]
  omega
theorem xor_0' (a : Int) (h0 : -9223372036854775808 ≤ a) (h1 : a ≤ 9223372036854775807) : bits .xor .i64 a 0 = a := by
  show IntKind.i64.wrap ((BitVec.ofInt 64 a ^^^ BitVec.ofInt 64 0).toNat : Int) = _
  have h1 : BitVec.ofInt 64 0 = 0#64 := by decide
  rw [h1, BitVec.xor_zero, BitVec.toNat_ofInt]
  simp [IntKind.wrap, IntKind.bits, IntKind.signed]
  omega
theorem mag_eq (code : Int) (h0 : -9223372036854775808 ≤ code) (h1 : code ≤ 9223372036854775807) :
    IntKind.u64.wrap (wrap64 (bits .xor .i64 code (code / 9223372036854775808) - code / 9223372036854775808)) = (code.natAbs : Int) := by
  rw [IntKind.wrap_u64]
  by_cases h : code < 0
  · rw [show code / 9223372036854775808 = -1 by omega, xor_m1' code h0 h1]; unfold wrap64; omega
  · rw [show code / 9223372036854775808 = 0 by omega, xor_0' code h0 h1]; unfold wrap64; omega

set_option maxHeartbeats 400000 in
theorem mag_any (code : Int) (w : World) (h0 : -9223372036854775808 ≤ code) (h1 : code ≤ 9223372036854775807) :
    Calls Ybad.prog 7 #[.int .i64 code] w fun e w' => e = .returned (.int .u64 code.natAbs) ∧ w' = w := by
  go_enter Ybad.func7, Ybad.ntmps7
  go_wp2
  go_ret
  exact ⟨ret1 (mag_eq code h0 h1), rfl⟩

theorem split_div (f n : Nat) (hn' : n ≤ 64) : f * 10 / 18446744073709551616 * 2 ^ (64 - n) + f * 10 % 18446744073709551616 / 2 ^ n = 10 * f / 2 ^ n := by
  have hPQ : 2 ^ n * 2 ^ (64 - n) = 18446744073709551616 := by rw [← Nat.pow_add, show n + (64 - n) = 64 by omega]
  have hP : 0 < 2 ^ n := Nat.pow_pos (by decide)
  have h := Nat.div_add_mod (f * 10) 18446744073709551616
  generalize f * 10 / 18446744073709551616 = hi at *
  generalize f * 10 % 18446744073709551616 = lo at *
  rw [Nat.mul_comm 10 f, ← h, ← hPQ, Nat.mul_assoc, Nat.mul_add_div hP, Nat.mul_comm (2 ^ (64 - n)) hi]
theorem fd1 (f n : Nat) (hn : 1 ≤ n) (hn' : n < 64) (hf : f < 2 ^ n) :
    bits .or .u64 (IntKind.u64.wrap ((f : Int) * 10 / 18446744073709551616 * 2 ^ (64 - n))) ((f : Int) * 10 % 18446744073709551616 / 2 ^ n) % 256 = ((10 * f / 2 ^ n : Nat) : Int) := by
  have hs := split_div f n (by omega)
  have h9 : 10 * f / 2 ^ n ≤ 9 := by rw [Nat.le_iff_lt_add_one, Nat.div_lt_iff_lt_mul (Nat.pow_pos (by decide))]; omega
  have hlo : f * 10 % 18446744073709551616 / 2 ^ n < 2 ^ (64 - n) := by
    rw [Nat.div_lt_iff_lt_mul (Nat.pow_pos (by decide)), ← Nat.pow_add, show 64 - n + n = 64 by omega]; omega
  have hor := Nat.shiftLeft_add_eq_or_of_lt hlo (f * 10 / 18446744073709551616)
  rw [Nat.shiftLeft_eq] at hor
  have e1 : ((f : Int) * 10 / 18446744073709551616 * 2 ^ (64 - n)) = ((f * 10 / 18446744073709551616 * 2 ^ (64 - n) : Nat) : Int) := by simp
  have e2 : ((f : Int) * 10 % 18446744073709551616 / 2 ^ n) = ((f * 10 % 18446744073709551616 / 2 ^ n : Nat) : Int) := by simp
  rw [e1, e2, IntKind.wrap_u64]
  generalize f * 10 / 18446744073709551616 * 2 ^ (64 - n) = A at *
  generalize f * 10 % 18446744073709551616 / 2 ^ n = B at *
  generalize 10 * f / 2 ^ n = D at *
  rw [show (A : Int) % 18446744073709551616 = (A : Int) by omega, u64_or_nat A B (by omega) (by omega), ← hor]
  omega
theorem fd2 (f n : Nat) (hn' : n < 64) :
    bits .and .u64 ((f : Int) * 10 % 18446744073709551616) (IntKind.u64.wrap (IntKind.u64.wrap (2 ^ n) - 1)) = ((10 * f % 2 ^ n : Nat) : Int) := by
  have hp1 : 1 ≤ 2 ^ n := Nat.pow_pos (by decide)
  have hp2 : 2 ^ n ≤ 2 ^ 63 := Nat.pow_le_pow_right (by decide) (by omega)
  have e0 : ((2 : Int) ^ n) = ((2 ^ n : Nat) : Int) := by simp
  have e1 : IntKind.u64.wrap (IntKind.u64.wrap (2 ^ n) - 1) = ((2 ^ n - 1 : Nat) : Int) := by rw [e0, IntKind.wrap_u64, IntKind.wrap_u64]; omega
  have e2 : ((f : Int) * 10 % 18446744073709551616) = ((f * 10 % 18446744073709551616 : Nat) : Int) := by simp
  rw [e1, e2, u64_and_nat _ _ (by omega) (by omega), Nat.and_two_pow_sub_one_eq_mod]
  have hd : 2 ^ n ∣ 18446744073709551616 := ⟨2 ^ (64 - n), by rw [← Nat.pow_add, show n + (64 - n) = 64 by omega]⟩
  rw [Nat.mod_mod_of_dvd _ hd, Nat.mul_comm]

set_option maxHeartbeats 400000 in
theorem fd_lt (M : Mul10) (f n : Nat) (w : World) (hn : 1 ≤ n) (hn' : n < 64) (hf : f < 2 ^ n) :
    Calls Ybad.prog 8 #[.int .u64 f, .int .u64 n] w fun e w' => e = .returned (.tuple #[.int .u8 ((10 * f / 2 ^ n : Nat) : Int), .int .u64 ((10 * f % 2 ^ n : Nat) : Int)]) ∧ w' = w := by
  have hf' : f < 18446744073709551616 := by have := Nat.pow_le_pow_right (show 1 ≤ 2 by omega) (show n ≤ 64 by omega); omega
  have HM : Hid Mul10 := M
  clear M
  go_enter Ybad.func8, Ybad.ntmps8
  go_wp2_with (go_at_call 11; refine (HM.out f _ hf').mono ?_; rintro e w' ⟨rfl, rfl⟩)
  go_ret2
  exact ⟨ret2 (fd1 f n hn hn' hf) (fd2 f n hn'), rfl⟩

set_option maxHeartbeats 400000 in
theorem fd_64 (M : Mul10) (f : Nat) (w : World) (hf' : f < 18446744073709551616) :
    Calls Ybad.prog 8 #[.int .u64 f, .int .u64 64] w fun e w' => e = .returned (.tuple #[.int .u8 ((10 * f / 2 ^ 64 : Nat) : Int), .int .u64 ((10 * f % 2 ^ 64 : Nat) : Int)]) ∧ w' = w := by
  have HM : Hid Mul10 := M
  clear M
  go_enter Ybad.func8, Ybad.ntmps8
  go_wp2_with (go_at_call 11; refine (HM.out f _ hf').mono ?_; rintro e w' ⟨rfl, rfl⟩)
  go_ret2
  exact ⟨ret2 (by omega) (by omega), rfl⟩
/-- fractionDigit. -/
theorem fd_any (M : Mul10) (f n : Nat) (w : World) (hn : 1 ≤ n) (hn' : n ≤ 64) (hf : f < 2 ^ n) :
    Calls Ybad.prog 8 #[.int .u64 f, .int .u64 n] w fun e w' => e = .returned (.tuple #[.int .u8 ((10 * f / 2 ^ n : Nat) : Int), .int .u64 ((10 * f % 2 ^ n : Nat) : Int)]) ∧ w' = w := by
  by_cases h : n < 64
  · exact fd_lt M f n w hn h hf
  · obtain rfl : n = 64 := by omega
    exact fd_64 M f w hf

end Go.Proofs.YbulkcxwcDoor
