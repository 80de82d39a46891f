import Derived.Test.YbulkcxwqFmtSized
import Derived.Lib.SliceRun
import Derived.LaidEqlPtr
import Derived.Lib.Builder
namespace Go.Proofs.YbulkcxwqFmt
open Go.RowKit Go.Extern.Stop Go.Stop Go.Extern

theorem eql_nil (a : Option Addr) (n c : Nat) (w : World) : (binOp .eql 22 (.slice a n c) (.slice none 0 0)).run Ybaf.prog w = .ok (.bool a.isNone) w := Lib.run_eql_slice_nil w 22 5 a n c 0 0 Ybaf.underlying22
theorem neq_ptr (a : Addr) (w : World) : (binOp .neq 28 (.pointer (some a)) (.pointer (some a))).run Ybaf.prog w = .ok (.bool false) w := by
  obtain ⟨i, hi⟩ : ∃ i, Ybaf.prog.info? 5 = some i := by
    cases hq : Ybaf.prog.info? 5 with
    | none => have h : (Ybaf.prog.info? 5).isSome = true := by kernel_rfl
              rw [hq] at h; cases h
    | some i => exact ⟨i, rfl⟩
  exact Lib.run_neq_ptr_same w a Ybaf.underlying28 hi

theorem below_drewN {B : Nat} {w w1 : World} (h : Below B w w1) (q : Nat) : Below B w (w1.drewN q) := by
  induction q with
  | zero => exact h
  | succ q ih => exact ih.drew
set_option maxHeartbeats 1000000 in
theorem am_short (F : Interp) (a0 : Option Addr) (len cap : Nat) (nm : ByteArray) (w : World) (hF : F.answers w.tape) (hlen : len < 2) :
    Calls Ybaf.prog 3 #[.slice a0 len cap, .string nm] w fun e w' => e = .returned (.bool true) ∧ Below w.heap.size w w' := by
  have hl : (len : Int) < 2 := by omega
  have hq := eql_nil
  go_enter Ybaf.func3, Ybaf.ntmps3
  go_wp2_with (go_at_call 5; refine (sl_short F a0 len cap nm _ hF hlen).mono ?_; rintro e w1 ⟨⟨p, rfl⟩, hb1⟩)
  go_ret
  exact ⟨rfl, hb1⟩

theorem i64_or_nat (a b : Nat) (ha : a < 4611686018427387904) (hb : b < 4611686018427387904) : bits .or .i64 (a : Int) (b : Int) = ((a ||| b : Nat) : Int) := by
  have hx : a ||| b < 2 ^ 62 := Nat.or_lt_two_pow (by omega) (by omega)
  show IntKind.i64.wrap ((BitVec.ofInt 64 (a : Int) ||| BitVec.ofInt 64 (b : Int)).toNat : Int) = _
  rw [BitVec.toNat_or, ofInt_u64 a (by omega), ofInt_u64 b (by omega)]
  simp [IntKind.wrap, IntKind.bits, IntKind.signed]
  omega
theorem or_n (c d : Nat) (hc : c < 16) (hd : d < 256) : bits .or .i64 ((c : Int) * 256) (d : Int) = ((c * 256 + d : Nat) : Int) := by
  rw [show ((c : Int) * 256) = ((c * 256 : Nat) : Int) by omega, i64_or_nat (c * 256) d (by omega) (by omega)]
  have h := Nat.shiftLeft_add_eq_or_of_lt (i := 8) (show d < 2 ^ 8 by omega) c
  rw [Nat.shiftLeft_eq] at h
  rw [← h]
theorem and15 (b : UInt8) : bits .and .u8 ((b.toNat : Nat) : Int) 15 = ((b.toNat % 16 : Nat) : Int) := by
  have h := u8_and_nat b.toNat 15 b.toNat_lt (by omega)
  have h2 := Nat.and_two_pow_sub_one_eq_mod b.toNat 4
  simp at h2
  rw [h2] at h; exact h

set_option maxHeartbeats 1000000 in
theorem am_over (F : Interp) (g o len cap : Nat) (b0 b1 : UInt8) (nm : ByteArray) (w : World) (hF : F.answers w.tape) (hlen : 2 ≤ len) (hmax : len ≤ 9223372036854775807) (hN : len < 2 + len12 b0 b1)
    (c0 : w.cell? ⟨g, o, none⟩ = some (.int .u8 b0.toNat)) (c1 : w.cell? ⟨g, o + 1, none⟩ = some (.int .u8 b1.toNat)) :
    Calls Ybaf.prog 3 #[.slice (some ⟨g, o, none⟩) len cap, .string nm] w fun e w' => e = .returned (.bool true) ∧ Below w.heap.size w w' := by
  have hl : (0 : Int) < (len : Int) := by omega
  have hl1 : (1 : Int) < (len : Int) := by omega
  have hq := eql_nil
  go_enter Ybaf.func3, Ybaf.ntmps3
  go_wp2_with (go_at_call 5; refine (sl_over F g o len cap b0 b1 nm _ hF hlen hmax hN c0 c1).mono ?_; rintro e w1 ⟨⟨p, rfl⟩, hb1⟩)
  have c0' : w1.cell? ⟨g, o, none⟩ = some (.int .u8 b0.toNat) := by rw [hb1.cell (World.block_lt_of_cell? w _ c0)]; exact c0
  have c1' : w1.cell? ⟨g, o + 1, none⟩ = some (.int .u8 b1.toNat) := by rw [hb1.cell (World.block_lt_of_cell? w _ c1)]; exact c1
  have hd := b1.toNat_lt
  have E1 := and15 b0
  have hc16 : b0.toNat % 16 < 16 := Nat.mod_lt _ (by decide)
  have E2 := or_n (b0.toNat % 16) b1.toNat hc16 hd
  have hNe : len12 b0 b1 = b0.toNat % 16 * 256 + b1.toNat := rfl
  rw [← hNe] at E2
  have hl4 := len12_lt b0 b1
  generalize len12 b0 b1 = N at *
  generalize b0.toNat % 16 = c at *
  generalize b0.toNat = x0 at *
  generalize b1.toNat = d at *
  clear hNe c0 c1
  go_quiet (fail)
  go_wp2_with fail
  go_ret
  exact ⟨rfl, below_drewN hb1 _⟩

set_option maxRecDepth 100000 in
set_option maxHeartbeats 2000000 in
theorem am_ok (g o len cap : Nat) (b0 b1 : UInt8) (z : Nat → Int) (nm : ByteArray) (w : World) (hlen : 2 ≤ len) (hcap : len ≤ cap) (hmax : cap ≤ 9223372036854775807) (hN : 2 + len12 b0 b1 ≤ len)
    (c0 : w.cell? ⟨g, o, none⟩ = some (.int .u8 b0.toNat)) (c1 : w.cell? ⟨g, o + 1, none⟩ = some (.int .u8 b1.toNat)) (hz : ∀ i, i < len → w.cell? ⟨g, o + i, none⟩ = some (.int .u8 (z i))) :
    Calls Ybaf.prog 3 #[.slice (some ⟨g, o, none⟩) len cap, .string nm] w fun e w' => e = .returned (.bool true) ∧ Below w.heap.size w w' := by
  have hl : (0 : Int) < (len : Int) := by omega
  have hl1 : (1 : Int) < (len : Int) := by omega
  go_enter Ybaf.func3, Ybaf.ntmps3
  go_wp2_with (go_at_call 5; refine (sl_ok g o len cap b0 b1 nm _ hlen hcap hmax hN c0 c1).mono ?_; rintro e w1 ⟨la, lc, ra, rc, rfl, hlc, hrc, hla, hra, hb1⟩)
  have c0' : w1.cell? ⟨g, o, none⟩ = some (.int .u8 b0.toNat) := by rw [hb1.cell (World.block_lt_of_cell? w _ c0)]; exact c0
  have c1' : w1.cell? ⟨g, o + 1, none⟩ = some (.int .u8 b1.toNat) := by rw [hb1.cell (World.block_lt_of_cell? w _ c1)]; exact c1
  have hz1 : ∀ i, i < len → w1.cell? ⟨g, o + i, none⟩ = some (.int .u8 (z i)) := fun i hi => by rw [hb1.cell (World.block_lt_of_cell? w _ (hz i hi))]; exact hz i hi
  have hd := b1.toNat_lt
  have E1 := and15 b0
  have hc16 : b0.toNat % 16 < 16 := Nat.mod_lt _ (by decide)
  have E2 := or_n (b0.toNat % 16) b1.toNat hc16 hd
  have hNe : len12 b0 b1 = b0.toNat % 16 * 256 + b1.toNat := rfl
  rw [← hNe] at E2
  have hl4 := len12_lt b0 b1
  generalize len12 b0 b1 = N at *
  generalize b0.toNat % 16 = c at *
  generalize b0.toNat = x0 at *
  generalize b1.toNat = d at *
  obtain ⟨M, hM⟩ : ∃ M, M = len - (2 + N) := ⟨_, rfl⟩
  rw [← hM] at hrc hra ⊢
  have hM1 : len ≤ M + (2 + N) := by omega
  have hM2 : M + (2 + N) ≤ len := by omega
  have HZ1 : Hid (∀ i, i < len → w1.cell? ⟨g, o + i, none⟩ = some (.int .u8 (z i))) := hz1
  clear hNe c0 c1 hz hz1 hM
  go_quiet (fail)
  clear c0' c1' E1 E2
  go_wp2_with fail
  go_loopw [9] (fun i wr => ∃ k q : Nat, k ≤ N ∧ i = .int .i64 k ∧ wr = w1.drewN q) (fun i _ => N - (intOf i).toNat)
  case atStart => exact ⟨0, _, by omega, rfl, rfl⟩
  case round =>
    obtain ⟨k, q, hk, rfl, rfl⟩ := hrel
    by_cases hkN : k < N
    · obtain rfl := hla (by omega)
      have hc1 : w1.cell? ⟨g, o + 2 + k, none⟩ = some (.int .u8 (z (2 + k))) := by rw [Nat.add_assoc]; exact HZ1.out (2 + k) (by omega)
      have hc2 : w1.cell? ⟨g, o + (2 + k), none⟩ = some (.int .u8 (z (2 + k))) := HZ1.out (2 + k) (by omega)
      have hi1 : (k : Int) < (N : Int) := by omega
      have hi2 : (2 : Int) + (k : Int) < (len : Int) := by omega
      clear hla hra
      go_wp2_with fail
      go_quiet (fail)
      go_wp2_with fail
      go_roundw
      case rel => exact ⟨k + 1, _, by omega, by go_num, rfl⟩
      case measure => simp [intOf]; omega
    · obtain rfl : k = N := by omega
      go_wp2_with fail
      go_loopw [10] (fun i wr => ∃ j q : Nat, j ≤ M ∧ i = .int .i64 j ∧ wr = w1.drewN q) (fun i _ => M - (intOf i).toNat)
      case atStart => exact ⟨0, _, by omega, rfl, rfl⟩
      case round =>
        obtain ⟨j, q, hj, rfl, rfl⟩ := hrel
        by_cases hjM : j < M
        · obtain rfl := hra (by omega)
          have hc1 : w1.cell? ⟨g, o + (2 + k) + j, none⟩ = some (.int .u8 (z (2 + k + j))) := by rw [Nat.add_assoc]; exact HZ1.out (2 + k + j) (by omega)
          have hc2 : w1.cell? ⟨g, o + (2 + k + j), none⟩ = some (.int .u8 (z (2 + k + j))) := HZ1.out (2 + k + j) (by omega)
          have hi1 : (j : Int) < (M : Int) := by omega
          have hi2 : (2 : Int) + (k : Int) + (j : Int) < (len : Int) := by omega
          clear hla hra
          go_wp2_with fail
          go_quiet (fail)
          go_wp2_with fail
          go_roundw
          case rel => exact ⟨j + 1, _, by omega, by go_num, rfl⟩
          case measure => simp [intOf]; omega
        · obtain rfl : j = M := by omega
          have hp := neq_ptr
          by_cases hN0 : 0 < k
          · obtain rfl := hla hN0
            have hi1 : (0 : Int) < (k : Int) := by omega
            have hi2 : (2 : Int) < (len : Int) := by omega
            by_cases hM0 : 0 < j
            · obtain rfl := hra hM0
              have hi3 : (0 : Int) < (j : Int) := by omega
              have hi4 : (2 : Int) + (k : Int) < (len : Int) := by omega
              clear hla hra
              go_wp2_with fail
              go_quiet (fail)
              go_wp2_with fail
              go_quiet (fail)
              go_wp2_with fail
              go_ret
              exact ⟨rfl, below_drewN (below_drewN (below_drewN hb1 _) _) _⟩
            · have hg2 : decide ((0 : Int) < (j : Int)) = false := decide_eq_false (by omega)
              clear hla hra
              go_wp2_with fail
              go_quiet (fail)
              go_wp2_with fail
              go_quiet (fail)
              go_wp2_with fail
              go_ret
              exact ⟨rfl, below_drewN (below_drewN (below_drewN hb1 _) _) _⟩
          · have hg1 : decide ((0 : Int) < (k : Int)) = false := decide_eq_false (by omega)
            by_cases hM0 : 0 < j
            · obtain rfl := hra hM0
              have hi3 : (0 : Int) < (j : Int) := by omega
              have hi4 : (2 : Int) + (k : Int) < (len : Int) := by omega
              clear hla hra
              go_wp2_with fail
              go_quiet (fail)
              go_wp2_with fail
              go_quiet (fail)
              go_wp2_with fail
              go_ret
              exact ⟨rfl, below_drewN (below_drewN (below_drewN hb1 _) _) _⟩
            · have hg2 : decide ((0 : Int) < (j : Int)) = false := decide_eq_false (by omega)
              clear hla hra
              go_wp2_with fail
              go_quiet (fail)
              go_wp2_with fail
              go_quiet (fail)
              go_wp2_with fail
              go_ret
              exact ⟨rfl, below_drewN (below_drewN (below_drewN hb1 _) _) _⟩
end Go.Proofs.YbulkcxwqFmt
