import Derived.Test.YbulkcxwcDoorApp10
namespace Go.Proofs.YbulkcxwcDoor
open Go.RowKit

theorem and_mask (mag n : Nat) (hn : n ≤ 64) (hm : mag < 18446744073709551616) : bits .and .u64 (mag : Int) (IntKind.u64.wrap (IntKind.u64.wrap (2 ^ n) - 1)) = ((mag % 2 ^ n : Nat) : Int) := by
  have hp1 : 1 ≤ 2 ^ n := Nat.pow_pos (by decide)
  have hp2 : 2 ^ n ≤ 2 ^ 64 := Nat.pow_le_pow_right (by decide) (by omega)
  have e0 : ((2 : Int) ^ n) = ((2 ^ n : Nat) : Int) := by simp
  have e1 : IntKind.u64.wrap (IntKind.u64.wrap (2 ^ n) - 1) = ((2 ^ n - 1 : Nat) : Int) := by rw [e0, IntKind.wrap_u64, IntKind.wrap_u64]; omega
  rw [e1, u64_and_nat _ _ (by omega) (by omega), Nat.and_two_pow_sub_one_eq_mod]

theorem and_one_u8 (E : Nat) (h : E < 256) : bits .and .u8 (E : Int) 1 = ((E % 2 : Nat) : Int) := by
  have h := u8_and_nat E 1 h (by decide)
  rw [Nat.and_one_is_mod] at h; exact h
theorem and_one_u64n (E : Nat) (h : E < 18446744073709551616) : bits .and .u64 (E : Int) 1 = ((E % 2 : Nat) : Int) := by
  have h := u64_and_nat E 1 h (by decide)
  rw [Nat.and_one_is_mod] at h; exact h
theorem pow_half (n : Nat) (h : 1 ≤ n) : 2 ^ n = 2 * 2 ^ (n - 1) := by
  obtain ⟨m, rfl⟩ : ∃ m, n = m + 1 := ⟨n - 1, by omega⟩
  rw [Nat.pow_succ, Nat.add_sub_cancel, Nat.mul_comm]
theorem up_eq {F f0 wh k H q : Nat} (h2H : F = 2 * H) (hq : q = (if k = 0 then wh else dg F f0 (k - 1)) % 2) : upB F f0 wh k = (decide (H < fr F f0 k) || (decide (H = fr F f0 k) && decide (q = 1))) := by
  unfold upB
  rw [← hq]
  generalize fr F f0 k = X
  have a : decide (F < 2 * X) = decide (H < X) := by rw [Bool.eq_iff_iff]; simp; omega
  have b : decide (F = 2 * X) = decide (H = X) := by rw [Bool.eq_iff_iff]; simp; omega
  rw [a, b]
theorem rd_up {F f0 wh k : Nat} (h : upB F f0 wh k = true) : rdW F f0 wh k = (if (rup (digs F f0 k)).2 then wh + 1 else wh) ∧ rdD F f0 wh k = (rup (digs F f0 k)).1 := by
  simp [rdW, rdD, h]
theorem rd_not {F f0 wh k : Nat} (h : upB F f0 wh k = false) : rdW F f0 wh k = wh ∧ rdD F f0 wh k = digs F f0 k := by
  simp [rdW, rdD, h]
theorem alen32 : Ybad.prog.arrayLen 32 = 64 := by simp [Program.arrayLen, Ybad.underlying32]
theorem slice32 (b m : Nat) (hm : m ≤ 64) (W : World) : (Instr.sliceAt 32 (.pointer (some ⟨b, 0, none⟩)) none (some (.int .i64 (m : Int))) none).run Ybad.prog W = .ok (.slice (some ⟨b, 0, none⟩) m 64) W := by
  rw [run_sliceAt_array_h W 32 ⟨b, 0, none⟩ (by simp [Program.arrayLen, Program.elem, Ybad.underlying32]) .i64 (m : Int) (by omega) (by rw [alen32]; omega)]
  have e : Ybad.prog.elem 32 = 5 := by simp [Program.elem, Ybad.underlying32]
  rw [e, alen32, Ybad.sizeOf5]
  simp [slicedAt, Addr.add]
theorem rdW_le (F f0 wh k : Nat) : rdW F f0 wh k ≤ wh + 1 := by unfold rdW; split <;> omega
theorem rd_zero {F f0 k : Nat} (hF : 0 < F) (wh : Nat) (hz : fr F f0 k = 0) : rdW F f0 wh k = wh ∧ rdD F f0 wh k = digs F f0 k := by
  have : upB F f0 wh k = false := by
    unfold upB; rw [hz]; simp; omega
  simp [rdW, rdD, this]

/-- What is written, as bytes. -/
def outL (code : Int) (F f0 wh nd m : Nat) : List UInt8 := outB (decide (code < 0)) (rdW F f0 wh nd) (Lib.decDigits (rdW F f0 wh nd)) ((rdD F f0 wh nd).take m)
def AppPost (code places : Int) (n B len : Nat) (xs : List Value) (w : World) (e : Ending) (w' : World) : Prop :=
  ∃ nd m v', IsNd places (2 ^ n) (code.natAbs % 2 ^ n) nd ∧ IsTrim (rdD (2 ^ n) (code.natAbs % 2 ^ n) (code.natAbs / 2 ^ n) nd) m ∧ e = .returned v' ∧
    w'.ownsRow B 5 1 v' (len + (outL code (2 ^ n) (code.natAbs % 2 ^ n) (code.natAbs / 2 ^ n) nd m).length) (xs ++ Lib.byteCells (outL code (2 ^ n) (code.natAbs % 2 ^ n) (code.natAbs / 2 ^ n) nd m)) ∧ Below B w w'
theorem dec_len (u : Nat) (h : u < 18446744073709551616) : (Lib.decDigits u).length ≤ 20 := by
  rw [Lib.decDigits_length]
  by_cases h1 : 1 ≤ u
  · have := Lib.numDigits_eq u h1 h; split at this <;> omega
  · rw [Lib.nDigits_small (by omega)]; omega
theorem getD_le (l : List Nat) (h : ∀ d ∈ l, d ≤ 9) (j : Nat) : l.getD j 0 ≤ 9 := by
  by_cases hj : j < l.length
  · have e : l.getD j 0 = l[j] := by simp [List.getD, List.getElem?_eq_getElem hj]
    rw [e]; exact h _ (List.getElem_mem hj)
  · simp [List.getD, List.getElem?_eq_none (Nat.le_of_not_lt hj)]
def signB (sg : Bool) : List UInt8 := if sg then [45] else []
theorem sign_len (sg : Bool) : (signB sg).length ≤ 1 := by cases sg <;> simp [signB]
theorem outL_eq (code : Int) (F f0 wh nd m W : Nat) (l : List Nat) (sg : Bool) (hl : rdD F f0 wh nd = l) (hW : rdW F f0 wh nd = W) (hsg : sg = (decide (code < 0) && (W != 0 || m != 0))) (hm : m ≤ l.length) :
    outL code F f0 wh nd m = signB sg ++ Lib.decDigits W ++ (if m = 0 then [] else 46 :: fracB (l.take m)) := by
  subst hl hW hsg
  unfold outL outB signB fracB
  have e : (List.take m (rdD F f0 wh nd)).isEmpty = decide (m = 0) := by
    rw [Bool.eq_iff_iff]; simp only [List.isEmpty_iff, List.take_eq_nil_iff, decide_eq_true_eq]
    constructor
    · rintro (h | h)
      · exact h
      · rw [h] at hm; simpa using hm
    · exact .inl
  rw [e]
  by_cases h0 : m = 0
  · subst h0; simp
  · have : (m != 0) = true := by simpa using h0
    simp [h0]

set_option maxRecDepth 100000 in
set_option maxHeartbeats 4000000 in
theorem app_any (code places : Int) (n B len cap : Nat) (ao : Option Addr) (xs : List Value) (w : World) (h0 : -9223372036854775808 ≤ code) (h1 : code ≤ 9223372036854775807)
    (p0 : -9223372036854775808 ≤ places) (p1 : places ≤ 9223372036854775807) (hn : n ≤ 64) (hB : B ≤ w.heap.size) (hlen : len ≤ 1024) (hown : w.ownsRow B 5 1 (.slice ao len cap) len xs)
    (htab : Lib.TabBelow Ybad.prog B w "internal/strconv.uint64pow10" .u64 Lib.pow10Tab) :
    Calls Ybad.prog 4 #[.agg #[.int .u8 64, .int .u8 n], .slice ao len cap, .int .i64 code, .int .i64 places] w fun e w' => AppPost code places n B len xs w e w' := by
  obtain ⟨mag, hmag⟩ : ∃ mag, mag = code.natAbs := ⟨_, rfl⟩
  have hm : mag ≤ 9223372036854775808 := by omega
  have HM := fun w => mag_any code w h0 h1
  rw [← hmag] at HM
  have HM' : Hid (∀ w, Calls Ybad.prog 7 #[.int .i64 code] w fun e w' => e = .returned (.int .u64 mag) ∧ w' = w) := HM
  have HMAG : Hid (mag = code.natAbs) := hmag
  clear HM hmag
  obtain ⟨F, hF⟩ : ∃ F, F = 2 ^ n := ⟨_, rfl⟩
  obtain ⟨f0, hf0⟩ : ∃ f0, f0 = mag % F := ⟨_, rfl⟩
  obtain ⟨wh, hwh⟩ : ∃ wh, wh = mag / F := ⟨_, rfl⟩
  have E1 : bits .and .u64 (mag : Int) (IntKind.u64.wrap (IntKind.u64.wrap (2 ^ n) - 1)) = (f0 : Int) := by rw [hf0, hF]; exact and_mask mag n hn (by omega)
  have E2 : (mag : Int) / 2 ^ n = (wh : Int) := by rw [hwh, hF]; simp
  have hFp : 0 < F := by rw [hF]; exact Nat.pow_pos (by decide)
  have hfF : f0 < F := by rw [hf0]; exact Nat.mod_lt _ hFp
  have hF64 : F ≤ 18446744073709551616 := by rw [hF]; exact Nat.pow_le_pow_right (n := 2) (by decide) hn
  have hwl : wh ≤ 9223372036854775808 := by rw [hwh]; exact Nat.le_trans (Nat.div_le_self _ _) hm
  have HPOST : Hid (∀ k m v' wr, IsNd places F f0 k → IsTrim (rdD F f0 wh k) m → wr.ownsRow B 5 1 v' (len + (outL code F f0 wh k m).length) (xs ++ Lib.byteCells (outL code F f0 wh k m)) → Below B w wr → AppPost code places n B len xs w (.returned v') wr) := by
    intro k m v' wr a1 a2 a3 a4
    subst hwh hf0 hF
    rw [HMAG.out] at a1 a2 a3
    exact ⟨k, m, v', a1, a2, rfl, a3, a4⟩
  have HF : Hid (F = 2 ^ n) := hF
  have H0 : Hid (f0 = mag % F) := hf0
  have HW : Hid (wh = mag / F) := hwh
  clear hF hf0 hwh
  have hz := zero32
  go_enter Ybad.func4, Ybad.ntmps4
  go_upto_region 5 with (go_at_call 7; refine (HM'.out _).mono ?_; rintro e w' ⟨rfl, rfl⟩)
  iterate 8 go_step
  clear E1 E2 hz HM'
  have hA0 := ainv_start hB hown (.cells #[.int .u8 64, .int .u8 n] 25)
  go_cut [12, 14] (fun fv nv wc => ∃ k : Nat, IsNd places F f0 k ∧ fv = .int .u64 (fr F f0 k) ∧ nv = .int .i64 k ∧ AInv w B (.slice ao len cap) len xs (digs F f0 k) wc)
  case first =>
    go_wp2_with fail
    go_loopw [12, 14] (fun fv nv wr => ∃ k : Nat, (∀ j, j < k → (j : Int) < places ∧ fr F f0 j ≠ 0) ∧ fv = .int .u64 (fr F f0 k) ∧ nv = .int .i64 k ∧ AInv w B (.slice ao len cap) len xs (digs F f0 k) wr) (fun _ nv _ => 65 - (intOf nv).toNat)
    case atStart => exact ⟨0, by intro j hj; omega, rfl, rfl, hA0⟩
    case round =>
      obtain ⟨k, hk, rfl, rfl, hA⟩ := hrel
      have hkn : k ≤ n := isNd_le (places := places) (f0 := f0) (by rw [← HF.out]; exact hfF) (by rw [← HF.out]; exact hk)
      have hfr := fr_lt hfF k
      by_cases hp : (k : Int) < places
      · by_cases hz : fr F f0 k = 0
        · have hz' : (((fr F f0 k : Nat) : Int) != 0) = false := by simp [hz]
          have HR : Hid (IsNd places F f0 k) := ⟨hk, fun h => h.2 hz⟩
          clear hk hz
          go_wp2_with fail
          go_meet
          case rel => exact ⟨k, HR.out, rfl, rfl, hA⟩
        · have hz' : (((fr F f0 k : Nat) : Int) != 0) = true := by simp [hz]
          have hk' : ∀ j, j < k + 1 → (j : Int) < places ∧ fr F f0 j ≠ 0 := fun j hj => by
            by_cases e : j = k
            · subst e; exact ⟨hp, hz⟩
            · exact hk j (by omega)
          have hkn' : k + 1 ≤ n := isNd_le (places := places) (f0 := f0) (by rw [← HF.out]; exact hfF) (by rw [← HF.out]; exact hk')
          have HK : Hid (∀ j, j < k + 1 → (j : Int) < places ∧ fr F f0 j ≠ 0) := hk'
          have HFD : Hid (∀ w, Calls Ybad.prog 8 #[.int .u64 (fr F f0 k), .int .u64 n] w fun e w' => e = .returned (.tuple #[.int .u8 (dg F f0 k), .int .u64 (fr F f0 (k + 1))]) ∧ w' = w) := fun w => by
            have h := fd_any mul10 (fr F f0 k) n w (by omega) hn (by rw [← HF.out]; exact hfr)
            rw [← HF.out] at h; exact h
          have hd9 := dg_le hfF k
          have HA : Hid (AInv w B (.slice ao len cap) len xs (digs F f0 (k + 1)) (wr.setCell ⟨w.heap.size + 1, k, none⟩ (.int .u8 (dg F f0 k)))) := by
            have h := hA.digit hB (dg F f0 k) (by rw [digs_length]; omega)
            rw [digs_length] at h; rw [digs_succ]; exact h
          obtain ⟨u, hu⟩ := hA.some k (by omega)
          have hfz := hA.fro k
          clear hk hk' hz
          go_wp2_with (go_at_call 8; refine (HFD.out _).mono ?_; rintro e w' ⟨rfl, rfl⟩)
          go_roundw
          case rel => exact ⟨k + 1, HK.out, rfl, by go_num, HA.out⟩
          case measure => simp [intOf]; omega
      · have HR : Hid (IsNd places F f0 k) := ⟨hk, fun h => hp h.1⟩
        have hp' : decide ((k : Int) < places) = false := decide_eq_false hp
        clear hk
        go_wp2_with fail
        go_meet
        case rel => exact ⟨k, HR.out, rfl, rfl, hA⟩
  case rest =>
    obtain ⟨k, hnd, rfl, rfl, hA⟩ := hcut
    clear hA0
    go_upto_if 50 with fail
    go_cut [11] (fun s11 wx => s11 = .int .u64 (rdW F f0 wh k) ∧ AInv w B (.slice ao len cap) len xs (rdD F f0 wh k) wx)
    case first =>
      have hfr := fr_lt hfF k
      by_cases hz : fr F f0 k = 0
      · have hz' : (((fr F f0 k : Nat) : Int) != 0) = false := by simp [hz]
        obtain ⟨hW, hD⟩ := rd_zero hFp wh hz
        have HWD : Hid (rdW F f0 wh k = wh ∧ rdD F f0 wh k = digs F f0 k) := ⟨hW, hD⟩
        clear hz hW hD
        go_wp2_with fail
        go_meet
        case rel => rw [HWD.out.1, HWD.out.2]; exact ⟨rfl, hA⟩
      · have hz' : (((fr F f0 k : Nat) : Int) != 0) = true := by simp [hz]
        have hn1 : 1 ≤ n := by
          by_cases e : n = 0
          · subst e; have := HF.out; simp at this; omega
          · omega
        obtain ⟨q, hq⟩ : ∃ q, q = (if k = 0 then wh else dg F f0 (k - 1)) % 2 := ⟨_, rfl⟩
        have hkn : k ≤ n := isNd_le (places := places) (f0 := f0) (by rw [← HF.out]; exact hfF) (by rw [← HF.out]; exact hnd.1)
        have HQ : Hid (q = (if k = 0 then wh else dg F f0 (k - 1)) % 2) := hq
        have hq2 : q < 2 := by rw [hq]; exact Nat.mod_lt _ (by decide)
        clear hq
        go_upto_if 54 with fail
        go_cut [15] (fun s15 wx => s15 = .int .u64 q ∧ wx = wc)
        case first =>
          by_cases hk0 : k = 0
          · have EQ : bits .and .u64 (wh : Int) 1 = (q : Int) := by
              rw [and_one_u64n _ (by omega), HQ.out, if_pos hk0]
            subst hk0
            go_wp2_with fail
            go_meet
            case rel => exact ⟨rfl, rfl⟩
          · have hk1 : 0 < (k : Int) := by omega
            have hd9 := dg_le hfF (k - 1)
            have hcl : wc.cell? ⟨w.heap.size + 1, k - 1, none⟩ = some (.int .u8 (dg F f0 (k - 1))) := by
              rw [hA.cell (k - 1) (by rw [digs_length]; omega)]
              simp [digs_get F f0 k (k - 1) (by omega)]
            have EQ : IntKind.u64.wrap (bits .and .u8 ((dg F f0 (k - 1) : Nat) : Int) 1) = (q : Int) := by
              rw [and_one_u8 _ (by omega), HQ.out, if_neg hk0, IntKind.wrap_u64]; omega
            go_wp2_with fail
            go_meet
            case rel => exact ⟨rfl, rfl⟩
        case rest =>
        obtain ⟨rfl, rfl⟩ := hcut
        obtain ⟨H, hH⟩ : ∃ H, H = 2 ^ (n - 1) := ⟨_, rfl⟩
        have h2H : F = 2 * H := by rw [HF.out, hH]; exact pow_half n hn1
        have EH : IntKind.u64.wrap (2 ^ (n - 1)) = (H : Int) := by
          rw [show ((2 : Int) ^ (n - 1)) = (H : Int) by rw [hH]; simp, IntKind.wrap_u64]; omega
        obtain ⟨D, hD1, hD2, hD3⟩ := hA.dig
        have HU : Hid (upB F f0 wh k = (decide (H < fr F f0 k) || (decide (H = fr F f0 k) && decide (q = 1)))) := up_eq h2H HQ.out
        obtain ⟨cy, hcy⟩ : ∃ cy, cy = (rup (digs F f0 k)).2 := ⟨_, rfl⟩
        have HC : Hid (∀ cap, Calls Ybad.prog 9 #[.slice (some ⟨w.heap.size + 1, 0, none⟩) k cap] wc fun e w' => e = .returned (.bool cy) ∧ ∃ D', w'.heap[w.heap.size + 1]? = some (.cells D' 32 (0, 0)) ∧ D'.size = D.size ∧ HoldsD D' (rup (digs F f0 k)).1 ∧ Wrote (w.heap.size + 1) wc w') := fun cap => by
          have h := round_any (digs F f0 k) (w.heap.size + 1) cap 32 D wc (digs_le hfF k) (by rw [digs_length]; omega) hD1 hD3
          rw [digs_length] at h; rw [hcy]; exact h
        have HCY : Hid (cy = (rup (digs F f0 k)).2) := hcy
        have hsl := slice32 (w.heap.size + 1) k (by omega)
        clear hH h2H hD1 hD3 hnd hcy
        by_cases hu : upB F f0 wh k = true
        · have hdec : H < fr F f0 k ∨ (H = fr F f0 k ∧ q = 1) := by rw [HU.out] at hu; simpa using hu
          have HWD : Hid (rdW F f0 wh k = (if cy then wh + 1 else wh) ∧ rdD F f0 wh k = (rup (digs F f0 k)).1) := by
            rw [HCY.out]; exact rd_up hu
          clear hu HU
          have hD2' : Hid (D.size = 64) := hD2
          clear hD2
          rcases hdec with hc | ⟨hc, rfl⟩
          · have hci : (H : Int) < (fr F f0 k : Nat) := by omega
            clear hc
            cases cy
            all_goals
              go_wp2_with (go_at_call 9; refine (HC.out _).mono ?_; rintro e w' ⟨rfl, D', k1, k2, k3, k4⟩)
              go_meet
              case rel => rw [HWD.out.1, HWD.out.2]; exact ⟨by go_num, hA.wrote hB k4 k1 (k2.trans hD2'.out) k3⟩
          · have hci : ¬ (H : Int) < (fr F f0 k : Nat) := by omega
            have hce : (((fr F f0 k : Nat) : Int) == (H : Int)) = true := by simp; omega
            clear hc
            cases cy
            all_goals
              go_wp2_with (go_at_call 9; refine (HC.out _).mono ?_; rintro e w' ⟨rfl, D', k1, k2, k3, k4⟩)
              go_meet
              case rel => rw [HWD.out.1, HWD.out.2]; exact ⟨by go_num, hA.wrote hB k4 k1 (k2.trans hD2'.out) k3⟩
        · have hdec : fr F f0 k < H ∨ (H = fr F f0 k ∧ q = 0) := by
            rw [HU.out] at hu
            simp at hu
            rcases Nat.lt_trichotomy H (fr F f0 k) with hc | hc | hc
            · omega
            · right; exact ⟨hc, by have := hu.2 hc; omega⟩
            · left; exact hc
          have HWD : Hid (rdW F f0 wh k = wh ∧ rdD F f0 wh k = digs F f0 k) := rd_not (by simpa using hu)
          clear hu HU HC
          rcases hdec with hc | ⟨hc, rfl⟩
          · have hci : ¬ (H : Int) < (fr F f0 k : Nat) := by omega
            have hce : (((fr F f0 k : Nat) : Int) == (H : Int)) = false := by rw [beq_eq_false_iff_ne]; omega
            clear hc
            go_wp2_with fail
            go_meet
            case rel => rw [HWD.out.1, HWD.out.2]; exact ⟨rfl, hA⟩
          · have hci : ¬ (H : Int) < (fr F f0 k : Nat) := by omega
            have hce : (((fr F f0 k : Nat) : Int) == (H : Int)) = true := by simp; omega
            clear hc
            go_wp2_with fail
            go_meet
            case rel => rw [HWD.out.1, HWD.out.2]; exact ⟨rfl, hA⟩
    case rest =>
      obtain ⟨rfl, hA⟩ := hcut
      iterate 2 go_step
      have hkn : k ≤ n := isNd_le (places := places) (f0 := f0) (by rw [← HF.out]; exact hfF) (by rw [← HF.out]; exact hnd.1)
      have hll := rdD_length F f0 wh k
      have hl9 := rdD_le hfF wh k
      have hWl := rdW_le F f0 wh k
      generalize hgl : rdD F f0 wh k = l at *
      generalize hgW : rdW F f0 wh k = W at *
      have HL : Hid (rdD F f0 wh k = l) := hgl
      have HWW : Hid (rdW F f0 wh k = W) := hgW
      have HND : Hid (IsNd places F f0 k) := hnd
      have HLL : Hid (l.length = k) := hll
      have hkl : k ≤ l.length := by omega
      clear hgl hgW hnd hll
      go_cut [14] (fun nv wx => ∃ m : Nat, nv = .int .i64 m ∧ IsTrim l m ∧ wx = wc)
      case first =>
        go_wp2_with fail
        go_loop [14] (fun nv => ∃ m : Nat, nv = .int .i64 m ∧ m ≤ k ∧ Hid (∀ j, m ≤ j → j < l.length → l.getD j 0 = 0)) (fun nv => (intOf nv).toNat)
        case atStart => exact ⟨k, rfl, Nat.le_refl _, fun j hj hl => by have := HLL.out; omega⟩
        case round =>
          obtain ⟨m, rfl, hmk, HT⟩ := hrel
          cases m with
          | zero =>
            go_wp2_with fail
            go_meet
            case rel => exact ⟨0, rfl, ⟨Nat.zero_le _, HT.out, .inl rfl⟩, rfl⟩
          | succ m =>
            obtain ⟨d, hd⟩ : ∃ d, d = l.getD m 0 := ⟨_, rfl⟩
            have hc := hA.cell m (by omega)
            rw [← hd] at hc
            have HD : Hid (d = l.getD m 0) := hd
            clear hd
            by_cases hd0 : d = 0
            · have HT2 : Hid (∀ j, m ≤ j → j < l.length → l.getD j 0 = 0) := trim_step HD.out hd0 HT.out
              subst hd0
              go_wp2_with fail
              go_round
              case rel => exact ⟨m, by go_num, by omega, HT2⟩
              case measure => simp [intOf]
            · have hd0' : ((d : Int) == 0) = false := by rw [beq_eq_false_iff_ne]; omega
              have HR : Hid (IsTrim l (m + 1)) := ⟨by omega, HT.out, .inr (by rw [Nat.add_sub_cancel, ← HD.out]; exact hd0)⟩
              clear hd0
              go_wp2_with fail
              go_meet
              case rel => exact ⟨m + 1, rfl, HR.out, rfl⟩
      case rest =>
      obtain ⟨m, rfl, htr, rfl⟩ := hcut
      have hmk : m ≤ k := by have := htr.1; have := HLL.out; omega
      have hml : m ≤ l.length := by omega
      have HTR : Hid (IsTrim l m) := htr
      obtain ⟨sg, hsg⟩ : ∃ sg : Bool, sg = (decide (code < 0) && (W != 0 || m != 0)) := ⟨_, rfl⟩
      have HSG : Hid (sg = (decide (code < 0) && (W != 0 || m != 0))) := hsg
      have HOUT : Hid (outL code F f0 wh k m = signB sg ++ Lib.decDigits W ++ (if m = 0 then [] else 46 :: fracB (l.take m))) := outL_eq code F f0 wh k m W l sg HL.out HWW.out hsg hml
      clear htr hsg
      go_upto_region 18 with fail
      go_cut [103] (fun t wx => t = .bool sg ∧ wx = wc)
      case first =>
        by_cases hneg : code < 0
        · by_cases hW0 : W = 0
          · subst hW0
            by_cases hm0 : m = 0
            · subst hm0
              have hs : sg = false := by rw [HSG.out]; simp
              subst hs
              go_wp2_with fail
              go_meet
              case rel => exact ⟨rfl, rfl⟩
            · have hs : sg = true := by rw [HSG.out]; simp [hneg, hm0]
              have hm0' : ((m : Int) != 0) = true := by simpa using hm0
              subst hs
              go_wp2_with fail
              go_meet
              case rel => exact ⟨rfl, rfl⟩
          · have hs : sg = true := by rw [HSG.out]; simp [hneg, hW0]
            have hW0' : ((W : Int) != 0) = true := by simpa using hW0
            subst hs
            go_wp2_with fail
            go_meet
            case rel => exact ⟨rfl, rfl⟩
        · have hs : sg = false := by rw [HSG.out]; simp [hneg]
          have hneg' : decide (code < 0) = false := decide_eq_false hneg
          subst hs
          go_wp2_with fail
          go_meet
          case rel => exact ⟨rfl, rfl⟩
      case rest =>
      obtain ⟨rfl, rfl⟩ := hcut
      go_upto_if 103 with fail
      go_cut [1] (fun v wx => AInv w B v (len + (signB sg).length) (xs ++ Lib.byteCells (signB sg)) l wx)
      case first =>
        cases sg
        · go_wp2_with fail
          go_meet
          case rel => simpa [signB, Lib.byteCells] using hA
        · go_wp2_with (first | (at_builtin; refine wpList_app1 rfl (.tmp 104) (.tmp 105) rfl rfl _ rfl rfl 45 hA hB (by omega) ?_; intro v1 w1 hA1))
          go_meet
          case rel => simpa [signB, Lib.byteCells] using hA1
      case rest =>
      clear hA
      have hA := hcut
      clear hcut
      have hsl1 := sign_len sg
      have HT1 : Hid (Lib.TabIs Ybad.prog wc "internal/strconv.uint64pow10" .u64 Lib.pow10Tab) := (htab.on hA.below).here
      go_wp2_with fail
      refine (app10 B _ W (by omega) u1 _ _ hA.own (by have := hA.size; omega) (by omega) HT1.out).mono ?_
      rintro e w1 ⟨v1, rfl, o1, b1, k1⟩
      have hA1 := hA.kept b1 k1 o1
      have hdl := dec_len W (by omega)
      clear hA o1 b1 k1
      by_cases hm0 : m = 0
      · subst hm0
        go_wp2_with fail
        go_ret
        have h := HOUT.out
        refine HPOST.out k 0 v1 w1 HND.out (by rw [HL.out]; exact HTR.out) ?_ hA1.below
        have ho := hA1.own
        rw [h]
        simpa [Lib.byteCells_append, Nat.add_assoc] using ho
      · have hm1 : 0 < (m : Int) := by omega
        have hsl := slice32 (w.heap.size + 1) m (by omega)
        go_wp2_with (first | (at_builtin; refine wpList_app1 rfl (.tmp 112) (.tmp 113) rfl rfl _ rfl rfl 46 hA1 hB (by omega) ?_; intro v2 w2 hA2))
        obtain ⟨n2, hn2⟩ : ∃ n2, n2 = len + (signB sg).length + (Lib.decDigits W).length + 1 := ⟨_, rfl⟩
        obtain ⟨ys, hys⟩ : ∃ ys, ys = xs ++ Lib.byteCells (signB sg) ++ Lib.byteCells (Lib.decDigits W) ++ [Value.int .u8 46] := ⟨_, rfl⟩
        have hb2 : n2 < 2000 := by omega
        rw [← hn2, ← hys] at hA2
        have HN2 : Hid (n2 = len + (signB sg).length + (Lib.decDigits W).length + 1) := hn2
        have HYS : Hid (ys = xs ++ Lib.byteCells (signB sg) ++ Lib.byteCells (Lib.decDigits W) ++ [Value.int .u8 46]) := hys
        clear hn2 hys hA1
        go_loopw [1, 118] (fun v i wr => ∃ j : Nat, j ≤ m ∧ i = .int .i64 j ∧ AInv w B v (n2 + j) (ys ++ Lib.byteCells (fracB (l.take j))) l wr) (fun _ i _ => m - (intOf i).toNat)
        case atStart => exact ⟨0, by omega, rfl, by simpa [fracB, Lib.byteCells] using hA2⟩
        case round =>
          obtain ⟨j, hj, rfl, hA3⟩ := hrel
          by_cases hlt : j < m
          · obtain ⟨d, hd⟩ : ∃ d, d = l.getD j 0 := ⟨_, rfl⟩
            have hc := hA3.cell j (by omega)
            rw [← hd] at hc
            have hd9 : d ≤ 9 := by rw [hd]; exact getD_le l hl9 j
            have HS : Hid (Lib.byteCells (fracB (l.take (j + 1))) = Lib.byteCells (fracB (l.take j)) ++ [.int .u8 (48 + (d : Int))]) := by
              have h := frac_snoc l j (by omega) (by rw [← hd]; exact hd9)
              rw [← hd] at h
              rw [show (48 + (d : Int)) = ((48 + d : Nat) : Int) by omega]; exact h
            clear hd
            go_wp2_with (first | (at_builtin; refine wpList_app1 rfl (.tmp 122) (.tmp 125) rfl rfl _ rfl rfl (48 + (d : Int)) hA3 hB (by omega) ?_; intro v4 w4 hA4))
            go_roundw
            case rel => exact ⟨j + 1, by omega, by go_num, by rw [HS.out, ← List.append_assoc, ← Nat.add_assoc]; exact hA4⟩
            case measure => simp [intOf]; omega
          · obtain rfl : j = m := by omega
            go_wp2_with fail
            go_ret
            have h := HOUT.out
            refine HPOST.out k j _ _ HND.out (by rw [HL.out]; exact HTR.out) ?_ hA3.below
            have ho := hA3.own
            rw [h, if_neg hm0]
            have e1 : len + (signB sg ++ Lib.decDigits W ++ 46 :: fracB (l.take j)).length = n2 + j := by
              have hll : (fracB (l.take j)).length = j := by simp [fracB]; omega
              simp only [List.length_append, List.length_cons, hll]; have := HN2.out; omega
            have e2 : xs ++ Lib.byteCells (signB sg ++ Lib.decDigits W ++ 46 :: fracB (l.take j)) = ys ++ Lib.byteCells (fracB (l.take j)) := by
              rw [HYS.out]; simp [Lib.byteCells]
            rw [e1, e2]; exact ho
end Go.Proofs.YbulkcxwcDoor
