import Derived.Test.YbulkcxwcRows
import Derived.Test.YbulkcxwcPlain
namespace Go.Proofs.Ybulkcxwc
open Go.RowKit

set_option maxHeartbeats 400000 in
theorem back_any (y z : Int) (vec : Bool) (w : World) (hy : In64 y) (hz : In64 z) :
    Calls Yba.prog 7 #[.int .i64 y, .int .i64 z, .bool vec] w fun e w' => e = .returned (.int .i64 (dir (bkB y z vec))) ∧ w' = w := by
  cases vec
  · have e1 : z / 9223372036854775808 = dir (bkB y z false) := by
      unfold In64 at hz; simp only [dir, bkB]; by_cases h : z < 0 <;> simp [h] <;> omega
    go_enter Yba.func7, Yba.ntmps7
    go_wp2
    go_ret
    exact ⟨rfl, rfl⟩
  · have e1 : bits .xor .i64 (-1) (y / 9223372036854775808) = dir (bkB y z true) := by
      have hd := in64_div y 63 hy
      rw [show (2 ^ 63 : Int) = 9223372036854775808 from rfl] at hd
      rw [bits_xor_m1 _ hd]
      unfold In64 at hy; simp only [dir, bkB]; by_cases h : 0 ≤ y <;> simp [h] <;> omega
    go_enter Yba.func7, Yba.ntmps7
    go_wp2
    go_ret
    exact ⟨rfl, rfl⟩

theorem and63 (s : Nat) (hs : s < 64) : bits .and .u64 (s : Int) 63 = (s : Int) := by
  have h := u64_and_nat s 63 (by omega) (by omega)
  have h2 : s &&& 63 = s := by
    have := Nat.and_two_pow_sub_one_eq_mod s 6
    simp at this; rw [this]; omega
  rw [h2] at h; exact h

theorem tt1 (x y : Int) (s : Nat) (hy : In64 y) : wrap64 (wrap64 (x + bits .xor .i64 (-1) (-1)) - bits .xor .i64 (y / 2 ^ s) (bits .xor .i64 (-1) (-1))) = stX x y s true := by
  rw [bits_xor_m1 (-1) (by unfold In64; omega)]
  simp only [stX, if_true]
  rw [show (-1 - -1 : Int) = 0 by decide, bits_xor_0' _ (in64_div y s hy), wrap64_sub_m]; congr 1; omega
theorem tt2 (x y : Int) (s : Nat) : wrap64 (wrap64 (y + 1) + bits .xor .i64 (wrap64 (IntKind.u64.wrap x / 2 ^ s)) (-1)) = stY x y s true := by
  rw [bits_xor_m1' _ (in64_wrap _), wrap64_add_m, IntKind.wrap_u64]
  simp only [stY, if_true]; congr 1; omega
theorem tt3 (z a : Int) (ha : In64 a) : wrap64 (wrap64 (z + -1) - bits .xor .i64 a (-1)) = stZ z a true := by
  rw [bits_xor_m1' _ ha, wrap64_sub_m]
  simp only [stZ, if_true]; congr 1; omega

theorem ff1 (x y : Int) (s : Nat) (hy : In64 y) : wrap64 (wrap64 (x + bits .xor .i64 (-1) 0) - bits .xor .i64 (y / 2 ^ s) (bits .xor .i64 (-1) 0)) = stX x y s false := by
  rw [bits_xor_m1 0 (by unfold In64; omega)]
  simp only [stX, Bool.false_eq_true, if_false]
  rw [show (-1 - 0 : Int) = -1 by decide, bits_xor_m1' _ (in64_div y s hy), wrap64_sub_m]; congr 1; omega
theorem ff2 (x y : Int) (s : Nat) : wrap64 (wrap64 y + bits .xor .i64 (wrap64 (IntKind.u64.wrap x / 2 ^ s)) 0) = stY x y s false := by
  rw [bits_xor_0' _ (in64_wrap _), wrap64_add_m, IntKind.wrap_u64]
  simp only [stY, Bool.false_eq_true, if_false]
theorem ff3 (z a : Int) (ha : In64 a) : wrap64 (wrap64 z - bits .xor .i64 a 0) = stZ z a false := by
  rw [bits_xor_0' _ ha, wrap64_sub_m]
  simp only [stZ, Bool.false_eq_true, if_false]
theorem ret3 {a b c a' b' c' : Int} (h1 : a = a') (h2 : b = b') (h3 : c = c') : Ending.returned (.tuple #[.int .i64 a, .int .i64 b, .int .i64 c]) = .returned (.tuple #[.int .i64 a', .int .i64 b', .int .i64 c']) := by
  rw [h1, h2, h3]

set_option maxHeartbeats 400000 in
theorem step_tt (x y z : Int) (s : Nat) (a : Int) (w : World) (hs : s < 64) (hy : In64 y) (ha : In64 a) :
    Calls Yba.prog 6 #[.int .i64 2, .int .i64 x, .int .i64 y, .int .i64 z, .int .u64 s, .int .i64 a, .int .i64 (-1)] w fun e w' => e = .returned (.tuple #[.int .i64 (stX x y s true), .int .i64 (stY x y s true), .int .i64 (stZ z a true)]) ∧ w' = w := by
  have e1 := and63 s hs
  go_enter Yba.func6, Yba.ntmps6
  go_wp2
  go_ret3
  exact ⟨ret3 (tt1 x y s hy) (tt2 x y s) (tt3 z a ha), rfl⟩

set_option maxHeartbeats 400000 in
theorem step_ff (x y z : Int) (s : Nat) (a : Int) (w : World) (hs : s < 64) (hy : In64 y) (ha : In64 a) :
    Calls Yba.prog 6 #[.int .i64 2, .int .i64 x, .int .i64 y, .int .i64 z, .int .u64 s, .int .i64 a, .int .i64 0] w fun e w' => e = .returned (.tuple #[.int .i64 (stX x y s false), .int .i64 (stY x y s false), .int .i64 (stZ z a false)]) ∧ w' = w := by
  have e1 := and63 s hs
  go_enter Yba.func6, Yba.ntmps6
  go_wp2
  go_ret3
  exact ⟨ret3 (ff1 x y s hy) (ff2 x y s) (ff3 z a ha), rfl⟩

/-- stepShort, in whatever direction. -/
theorem step_any (x y z : Int) (s : Nat) (a : Int) (b : Bool) (w : World) (hs : s < 64) (hy : In64 y) (ha : In64 a) :
    Calls Yba.prog 6 #[.int .i64 2, .int .i64 x, .int .i64 y, .int .i64 z, .int .u64 s, .int .i64 a, .int .i64 (dir b)] w fun e w' => e = .returned (.tuple #[.int .i64 (stX x y s b), .int .i64 (stY x y s b), .int .i64 (stZ z a b)]) ∧ w' = w := by
  cases b
  · exact step_ff x y z s a w hs hy ha
  · exact step_tt x y z s a w hs hy ha

theorem zt2 (x y : Int) (s : Nat) : wrap64 (y - wrap64 (IntKind.u64.wrap x / 2 ^ s)) = stY x y s true := by rw [IntKind.wrap_u64]; rfl
theorem zf2 (x y : Int) (s : Nat) : wrap64 (y + wrap64 (IntKind.u64.wrap x / 2 ^ s)) = stY x y s false := by rw [IntKind.wrap_u64]; rfl

set_option maxHeartbeats 400000 in
/-- The model's step. -/
theorem zstep_any (x y z : Int) (s : Nat) (a : Int) (vec : Bool) (w : World) (hs : s < 64) :
    Calls Yba.prog 5 #[.int .i64 x, .int .i64 y, .int .i64 z, .int .u64 s, .int .i64 a, .bool vec] w fun e w' => e = .returned (.tuple #[.int .i64 (stX x y s (bkB y z vec)), .int .i64 (stY x y s (bkB y z vec)), .int .i64 (stZ z a (bkB y z vec))]) ∧ w' = w := by
  cases vec
  · by_cases h : z < 0
    · have hb : bkB y z false = true := by simp [bkB, h]
      rw [hb]; clear hb
      go_enter Yba.func5, Yba.ntmps5
      go_wp2
      go_ret3
      exact ⟨ret3 rfl (zt2 x y s) rfl, rfl⟩
    · have hb : bkB y z false = false := by simp [bkB, h]
      rw [hb]; clear hb
      go_enter Yba.func5, Yba.ntmps5
      go_wp2
      go_ret3
      exact ⟨ret3 rfl (zf2 x y s) rfl, rfl⟩
  · by_cases h : 0 ≤ y
    · have hb : bkB y z true = true := by simp [bkB, h]
      rw [hb]; clear hb
      go_enter Yba.func5, Yba.ntmps5
      go_wp2
      go_ret3
      exact ⟨ret3 rfl (zt2 x y s) rfl, rfl⟩
    · have hb : bkB y z true = false := by simp [bkB, h]
      rw [hb]; clear hb
      go_enter Yba.func5, Yba.ntmps5
      go_wp2
      go_ret3
      exact ⟨ret3 rfl (zf2 x y s) rfl, rfl⟩
end Go.Proofs.Ybulkcxwc
