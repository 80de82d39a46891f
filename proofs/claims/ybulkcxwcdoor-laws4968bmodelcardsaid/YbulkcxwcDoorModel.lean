import Derived.Test.YbulkcxwcDoorApp
import Derived.Test.YbulkcxwcDoorOInv
namespace Go.Proofs.YbulkcxwcDoor
open Go.RowKit

theorem x0_eq (mag n : Nat) (hm : mag < 18446744073709551616) (hn : n < 64) :
    IntKind.u64.wrap (IntKind.u64.wrap ((mag : Int) - IntKind.u64.wrap ((mag : Int) / 2 ^ n * 2 ^ n)) * 2 ^ (64 - n)) = ((mag % 2 ^ n * 2 ^ (64 - n) : Nat) : Int) := by
  have h := Nat.div_add_mod mag (2 ^ n)
  have e1 : ((mag : Int) / 2 ^ n * 2 ^ n) = ((2 ^ n * (mag / 2 ^ n) : Nat) : Int) := by rw [Nat.mul_comm]; simp
  rw [e1, IntKind.wrap_u64, IntKind.wrap_u64, IntKind.wrap_u64]
  have e2 : (mag : Int) - ((2 ^ n * (mag / 2 ^ n) : Nat) : Int) % 18446744073709551616 = ((mag % 2 ^ n : Nat) : Int) := by
    generalize 2 ^ n * (mag / 2 ^ n) = A at *
    generalize mag % 2 ^ n = R at *
    omega
  have hlt : mag % 2 ^ n * 2 ^ (64 - n) < 18446744073709551616 := by
    rw [← FG n (by omega)]; exact Nat.mul_lt_mul_of_pos_right (Nat.mod_lt _ (Nat.pow_pos (by decide))) (Nat.pow_pos (by decide))
  have hr : mag % 2 ^ n ≤ mag := Nat.mod_le _ _
  rw [e2, show (((mag % 2 ^ n : Nat) : Int) % 18446744073709551616) = ((mag % 2 ^ n : Nat) : Int) by omega]
  rw [show (((mag % 2 ^ n : Nat) : Int) * 2 ^ (64 - n)) = ((mag % 2 ^ n * 2 ^ (64 - n) : Nat) : Int) by simp]
  omega
def ModPost (code places : Int) (n : Nat) (w : World) (e : Ending) (w' : World) : Prop :=
  ∃ nd m v' B, IsNd places (2 ^ n) (code.natAbs % 2 ^ n) nd ∧ IsTrim (rdD (2 ^ n) (code.natAbs % 2 ^ n) (code.natAbs / 2 ^ n) nd) m ∧ e = .returned v' ∧ w.heap.size ≤ B ∧
    w'.ownsRow B 5 1 v' (outL code (2 ^ n) (code.natAbs % 2 ^ n) (code.natAbs / 2 ^ n) nd m).length (Lib.byteCells (outL code (2 ^ n) (code.natAbs % 2 ^ n) (code.natAbs / 2 ^ n) nd m)) ∧ Below w.heap.size w w'
def lenOf : Value → Nat
  | .slice _ n _ => n
  | _ => 0

set_option maxRecDepth 100000 in
set_option maxHeartbeats 4000000 in
theorem model_any (code places : Int) (n : Nat) (w : World) (h0 : -9223372036854775808 ≤ code) (h1 : code ≤ 9223372036854775807)
    (p0 : -9223372036854775808 ≤ places) (p1 : places ≤ 9223372036854775807) (hn : n ≤ 64) :
    Calls Ybad.prog 6 #[.int .i64 code, .int .u64 n, .int .i64 places] w fun e w' => ModPost code places n w e w' := by
  obtain ⟨mag, hmag⟩ : ∃ mag, mag = code.natAbs := ⟨_, rfl⟩
  have hm : mag ≤ 9223372036854775808 := by omega
  have HMAG : Hid (mag = code.natAbs) := hmag
  obtain ⟨F, hF⟩ : ∃ F, F = 2 ^ n := ⟨_, rfl⟩
  obtain ⟨G, hG⟩ : ∃ G, G = 2 ^ (64 - n) := ⟨_, rfl⟩
  obtain ⟨f0, hf0⟩ : ∃ f0, f0 = mag % F := ⟨_, rfl⟩
  obtain ⟨wh, hwh⟩ : ∃ wh, wh = mag / F := ⟨_, rfl⟩
  have hFp : 0 < F := by rw [hF]; exact Nat.pow_pos (by decide)
  have hGp : 0 < G := by rw [hG]; exact Nat.pow_pos (by decide)
  have HFG : Hid (F * G = 18446744073709551616) := by rw [hF, hG]; exact FG n hn
  have hfF : f0 < F := by rw [hf0]; exact Nat.mod_lt _ hFp
  have hF64 : F ≤ 18446744073709551616 := by rw [hF]; exact Nat.pow_le_pow_right (n := 2) (by decide) hn
  have hwl : wh ≤ 9223372036854775808 := by rw [hwh]; exact Nat.le_trans (Nat.div_le_self _ _) hm
  have HPOST : Hid (∀ k m v' B wr, IsNd places F f0 k → IsTrim (rdD F f0 wh k) m → w.heap.size ≤ B → wr.ownsRow B 5 1 v' (outL code F f0 wh k m).length (Lib.byteCells (outL code F f0 wh k m)) → Below w.heap.size w wr → ModPost code places n w (.returned v') wr) := by
    intro k m v' B wr a1 a2 a3 a4 a5
    subst hwh hf0 hF
    rw [HMAG.out] at a1 a2 a4
    exact ⟨k, m, v', B, a1, a2, rfl, a3, a4, a5⟩
  have HF : Hid (F = 2 ^ n) := hF
  have HG : Hid (G = 2 ^ (64 - n)) := hG
  have H0 : Hid (f0 = mag % F) := hf0
  have HW : Hid (wh = mag / F) := hwh
  clear hmag hF hG hf0 hwh
  go_enter Ybad.func6, Ybad.ntmps6
  go_upto_if 21 with fail
  go_cut [7] (fun s7 wx => s7 = .int .u64 mag ∧ w = wx)
  case first =>
    as_aux_lemma =>
      by_cases hneg : code < 0
      · have e1 : -(code + 1) + 1 = (mag : Int) := by rw [HMAG.out]; exact mg_neg code hneg
        go_wp2_with fail
        go_meet
        case rel => exact ⟨rfl, rfl⟩
      · have e1 : code = (mag : Int) := by rw [HMAG.out]; exact mg_pos code hneg
        have hneg' : decide ((mag : Int) < 0) = false := decide_eq_false (by omega)
        subst e1
        go_wp2_with fail
        go_meet
        case rel => exact ⟨rfl, rfl⟩
  case rest =>
  obtain ⟨rfl, rfl⟩ := hcut
  go_upto_if 30 with fail
  go_cut [8, 9] (fun s8 s9 wx => s8 = .int .u64 wh ∧ s9 = .int .u64 ((f0 * G : Nat) : Int) ∧ w = wx)
  case first =>
    as_aux_lemma =>
      by_cases h64 : n < 64
      · go_wp2_with fail
        go_meet
        case rel => exact ⟨by rw [HW.out, HF.out]; simp, by rw [H0.out, HG.out, HF.out, ← x0_eq mag n (by omega) h64], rfl⟩
      · obtain rfl : n = 64 := by omega
        have e1 : (wh : Int) = 0 := by have h := HW.out; rw [HF.out, Nat.div_eq_of_lt (by omega)] at h; omega
        have e2 : ((f0 * G : Nat) : Int) = (mag : Int) := by have h := H0.out; rw [HF.out, Nat.mod_eq_of_lt (by omega)] at h; rw [HG.out, h]; simp
        have HE : Hid ((wh : Int) = 0 ∧ ((f0 * G : Nat) : Int) = (mag : Int)) := ⟨e1, e2⟩
        clear e1 e2
        go_wp2_with fail
        go_meet
        case rel => exact ⟨by rw [HE.out.1], by rw [HE.out.2], rfl⟩
  case rest =>
  obtain ⟨rfl, rfl, rfl⟩ := hcut
  go_upto_region 11 with fail
  iterate 8 go_step
  go_cut [9, 10] (fun s9 s10 wx => ∃ (k : Nat) (ao : Option Addr) (cap : Nat), IsNd places F f0 k ∧ s9 = .int .u64 ((fr F f0 k * G : Nat) : Int) ∧ s10 = .slice ao k cap ∧ MInv w ao cap k (digs F f0 k) wx)
  case first =>
    as_aux_lemma =>
      go_wp2_with fail
      go_loopw [9, 10] (fun s9 s10 wr => ∃ (k : Nat) (ao : Option Addr) (cap : Nat), (∀ j, j < k → (j : Int) < places ∧ fr F f0 j ≠ 0) ∧ s9 = .int .u64 ((fr F f0 k * G : Nat) : Int) ∧ s10 = .slice ao k cap ∧ MInv w ao cap k (digs F f0 k) wr) (fun _ s10 _ => 65 - lenOf s10)
      case atStart => exact ⟨0, none, 0, by intro j hj; omega, rfl, rfl, minv_start _⟩
      case round =>
        as_aux_lemma =>
          obtain ⟨k, ao, cap, hk, rfl, rfl, hA⟩ := hrel
          have hkn : k ≤ n := isNd_le (places := places) (f0 := f0) (by rw [← HF.out]; exact hfF) (by rw [← HF.out]; exact hk)
          have hfr := fr_lt hfF k
          obtain ⟨x, hx⟩ : ∃ x, x = fr F f0 k * G := ⟨_, rfl⟩
          rw [← hx]
          have hx64 : x < 18446744073709551616 := by rw [hx, ← HFG.out]; exact Nat.mul_lt_mul_of_pos_right hfr hGp
          have HX : Hid (x = fr F f0 k * G) := hx
          clear hx
          by_cases hp : (k : Int) < places
          · by_cases hz : fr F f0 k = 0
            · have hx0 : x = 0 := by rw [HX.out, hz]; simp
              have HR : Hid (IsNd places F f0 k) := ⟨hk, fun h => h.2 hz⟩
              clear hk hz
              subst hx0
              by_cases hk64 : k < 64
              · go_wp2_with fail
                go_meet
                case rel => exact ⟨k, ao, cap, HR.out, by rw [← HX.out]; rfl, rfl, hA⟩
              · go_wp2_with fail
                go_meet
                case rel => exact ⟨k, ao, cap, HR.out, by rw [← HX.out]; rfl, rfl, hA⟩
            · have hx0 : ((x : Int) != 0) = true := by
                have : 0 < x := by rw [HX.out]; exact Nat.mul_pos (by omega) hGp
                rw [bne_iff_ne]; omega
              have hk' : ∀ j, j < k + 1 → (j : Int) < places ∧ fr F f0 j ≠ 0 := fun j hj => by
                by_cases e : j = k
                · subst e; exact ⟨hp, hz⟩
                · exact hk j (by omega)
              have hkn' : k + 1 ≤ n := isNd_le (places := places) (f0 := f0) (by rw [← HF.out]; exact hfF) (by rw [← HF.out]; exact hk')
              have HK : Hid (∀ j, j < k + 1 → (j : Int) < places ∧ fr F f0 j ≠ 0) := hk'
              have HM : Hid (∀ w, Calls Ybad.prog 11 #[.int .u64 x, .int .u64 10] w fun e w' => e = .returned (.tuple #[.int .u64 (dg F f0 k), .int .u64 ((fr F f0 (k + 1) * G : Nat) : Int)]) ∧ w' = w) := fun w => by
                have h := mul10 x w hx64
                rw [HX.out, hi_eq hGp HFG.out, lo_eq HFG.out] at h
                rw [HX.out]; exact h
              have hd9 := dg_le hfF k
              clear hk hk' hz
              go_wp2_with (first | (go_at_call 11; refine (HM.out _).mono ?_; rintro e w' ⟨rfl, rfl⟩) | (at_builtin; refine wpList_mpush rfl (.tmp 61) (.tmp 64) rfl rfl _ rfl rfl (dg F f0 k) hA (by omega) ?_; intro g cap' w1 hA1))
              go_roundw
              case rel => exact ⟨k + 1, some ⟨g, 0, none⟩, cap', HK.out, rfl, rfl, by rw [digs_succ]; exact hA1⟩
              case measure => simp [lenOf]; omega
          · have HR : Hid (IsNd places F f0 k) := ⟨hk, fun h => hp h.1⟩
            have hp' : decide ((k : Int) < places) = false := decide_eq_false hp
            clear hk
            go_wp2_with fail
            go_meet
            case rel => exact ⟨k, ao, cap, HR.out, by rw [← HX.out], rfl, hA⟩
  case rest =>
  obtain ⟨k, ao, cap, hnd, rfl, rfl, hA⟩ := hcut
  have hkn : k ≤ n := isNd_le (places := places) (f0 := f0) (by rw [← HF.out]; exact hfF) (by rw [← HF.out]; exact hnd.1)
  have hfr := fr_lt hfF k
  obtain ⟨x, hx⟩ : ∃ x, x = fr F f0 k * G := ⟨_, rfl⟩
  rw [← hx]
  have hx64 : x < 18446744073709551616 := by rw [hx, ← HFG.out]; exact Nat.mul_lt_mul_of_pos_right hfr hGp
  have HX : Hid (x = fr F f0 k * G) := hx
  have HND : Hid (IsNd places F f0 k) := hnd
  clear hx hnd
  go_upto_if 68 with fail
  go_cut [8, 9] (fun s8 _ wx => s8 = .int .u64 (rdW F f0 wh k) ∧ MInv w ao cap k (rdD F f0 wh k) wx)
  case first =>
    as_aux_lemma =>
      by_cases hz : fr F f0 k = 0
      · have hx0 : x = 0 := by rw [HX.out, hz]; simp
        have HWD : Hid (rdW F f0 wh k = wh ∧ rdD F f0 wh k = digs F f0 k) := rd_zero hFp wh hz
        clear hz
        subst hx0
        go_wp2_with fail
        go_meet
        case rel => rw [HWD.out.1, HWD.out.2]; exact ⟨rfl, hA⟩
      · have hxp : 0 < x := by rw [HX.out]; exact Nat.mul_pos (by omega) hGp
        have hx0 : ((x : Int) != 0) = true := by rw [bne_iff_ne]; omega
        have hn1 : 1 ≤ n := by
          by_cases e : n = 0
          · subst e; have := HF.out; simp at this; omega
          · omega
        obtain ⟨q, hq⟩ : ∃ q, q = (if k = 0 then wh else dg F f0 (k - 1)) % 2 := ⟨_, rfl⟩
        have HQ : Hid (q = (if k = 0 then wh else dg F f0 (k - 1)) % 2) := hq
        have hq2 : q < 2 := by rw [hq]; exact Nat.mod_lt _ (by decide)
        clear hq
        have hE0 : bits .and .u64 (wh : Int) 1 = ((wh % 2 : Nat) : Int) := and_one_u64n _ (by omega)
        go_upto_if 74 with fail
        clear hE0
        go_cut [13] (fun s13 wx => s13 = .bool (q == 1) ∧ wc = wx)
        case first =>
          as_aux_lemma =>
            by_cases hk0 : k = 0
            · have EQ : wh % 2 = q := by rw [HQ.out, if_pos hk0]
              have HEQ : Hid (wh % 2 = q) := EQ
              clear EQ
              subst hk0
              go_wp2_with fail
              go_meet
              case rel => rw [← HEQ.out]; exact ⟨by congr 1; rw [Bool.eq_iff_iff]; simp; omega, rfl⟩
            · obtain ⟨g, rfl⟩ := hA.addr (by omega)
              have hd9 := dg_le hfF (k - 1)
              have hcl : wc.cell? ⟨g, k - 1, none⟩ = some (.int .u8 (dg F f0 (k - 1))) := by
                rw [hA.cell (k - 1) (by omega)]
                simp [digs_get F f0 k (k - 1) (by omega)]
              have EQ : bits .and .u8 ((dg F f0 (k - 1) : Nat) : Int) 1 = (q : Int) := by
                rw [and_one_u8 _ (by omega), HQ.out, if_neg hk0]
              have hk1 : 0 < k := by omega
              go_wp2_with fail
              go_meet
              case rel => exact ⟨by congr 1; rw [Bool.eq_iff_iff]; simp; omega, rfl⟩
        case rest =>
        obtain ⟨rfl, rfl⟩ := hcut
        obtain ⟨H, hH⟩ : ∃ H, H = 2 ^ (n - 1) := ⟨_, rfl⟩
        have h2H : F = 2 * H := by rw [HF.out, hH]; exact pow_half n hn1
        have hHG : H * G = 9223372036854775808 := by have h := HFG.out; rw [h2H, Nat.mul_assoc] at h; omega
        have HU : Hid (upB F f0 wh k = (decide (H < fr F f0 k) || (decide (H = fr F f0 k) && decide (q = 1)))) := up_eq h2H HQ.out
        have hgt : H < fr F f0 k ↔ 9223372036854775808 < x := by rw [HX.out, ← hHG]; exact (Nat.mul_lt_mul_right hGp).symm
        have heq : H = fr F f0 k ↔ x = 9223372036854775808 := by
          rw [HX.out, ← hHG]
          constructor
          · intro h; rw [h]
          · intro h; exact (Nat.eq_of_mul_eq_mul_right hGp h).symm
        have hdec : upB F f0 wh k = true ↔ (9223372036854775808 < x ∨ (x = 9223372036854775808 ∧ q = 1)) := by rw [HU.out]; simp [hgt, heq]
        have HDEC : Hid (upB F f0 wh k = true ↔ (9223372036854775808 < x ∨ (x = 9223372036854775808 ∧ q = 1))) := hdec
        clear hH h2H hHG HU hgt heq hdec
        by_cases hu : 9223372036854775808 < x ∨ (x = 9223372036854775808 ∧ q = 1)
        · have HWD : Hid (rdW F f0 wh k = (if (rup (digs F f0 k)).2 then wh + 1 else wh) ∧ rdD F f0 wh k = (rup (digs F f0 k)).1) := rd_up (HDEC.out.2 hu)
          have hlen := hA.len
          have hcaps := hA.caps
          have h9 := digs_le hfF k
          have HL0 : Hid (digs F f0 k = digs F f0 k ++ List.replicate 0 9) := by show _ = _; simp
          rcases hu with hx1 | ⟨hx1, rfl⟩
          · have hx2 : (9223372036854775808 : Int) < (x : Int) := by omega
            clear hx1
            go_wp2_with fail
            go_loopw [14] (fun i wr => ∃ (p : List Nat) (j : Nat), Hid (digs F f0 k = p ++ List.replicate j 9) ∧ i = .int .i64 ((p.length : Int) - 1) ∧ MInv w ao cap k (p ++ List.replicate j 0) wr) (fun i _ => ((intOf i) + 1).toNat)
            case atStart => exact ⟨digs F f0 k, 0, HL0, by rw [digs_length], by simpa using hA⟩
            case round =>
              as_aux_lemma =>
                obtain ⟨p, j, HL, rfl, hA2⟩ := hrel
                rcases nil_or_snoc p with rfl | ⟨p, d, rfl⟩
                · have hr : rup (digs F f0 k) = (List.replicate j 0, true) := by rw [HL.out]; exact rup_nines j
                  have HR : Hid (rdW F f0 wh k = wh + 1 ∧ rdD F f0 wh k = List.replicate j 0) := by have h := HWD.out; rw [hr] at h; simp at h; exact h
                  have e1 : ((([] : List Nat).length : Nat) : Int) - 1 = -1 := rfl
                  rw [e1]
                  clear hr e1
                  go_wp2_with fail
                  go_meet
                  case rel => rw [HR.out.1, HR.out.2]; exact ⟨by go_num, by simpa using hA2⟩
                · have hl : digs F f0 k = p ++ d :: List.replicate j 9 := by rw [HL.out]; simp
                  have hpk : p.length < k := by have h := congrArg List.length hl; rw [digs_length] at h; simp at h; omega
                  have hd9 : d ≤ 9 := h9 d (by rw [hl]; simp)
                  have hA3 : MInv w ao cap k (p ++ d :: List.replicate j 0) wr := by simpa using hA2
                  obtain ⟨g, hg⟩ := hA3.addr (by omega)
                  subst hg
                  have e1 : ((p ++ [d]).length : Int) - 1 = (p.length : Int) := by simp
                  rw [e1]
                  have hc : wr.cell? ⟨g, p.length, none⟩ = some (.int .u8 d) := by rw [hA3.cell p.length hpk]; simp
                  have hf := hA3.fro p.length
                  have HA3 : Hid (MInv w (some ⟨g, 0, none⟩) cap k (p ++ d :: List.replicate j 0) wr) := hA3
                  by_cases hd : d < 9
                  · have hr : rup (digs F f0 k) = (p ++ (d + 1) :: List.replicate j 0, false) := by rw [hl]; exact rup_hit d j hd p
                    have HR : Hid (rdW F f0 wh k = wh ∧ rdD F f0 wh k = p ++ (d + 1) :: List.replicate j 0) := by have h := HWD.out; rw [hr] at h; simp at h; exact h
                    clear hr hl e1 HL hA2 hA3
                    go_wp2_with fail
                    go_meet
                    case rel => rw [HR.out.1, HR.out.2]; exact ⟨rfl, HA3.out.set (d + 1)⟩
                  · obtain rfl : d = 9 := by omega
                    have HL2 : Hid (digs F f0 k = p ++ List.replicate (j + 1) 9) := by rw [hl, List.replicate_succ]; exact rfl
                    clear hl e1 HL hA2 hA3
                    go_wp2_with fail
                    go_roundw
                    case rel => exact ⟨p, j + 1, HL2, by go_num, by rw [List.replicate_succ]; exact HA3.out.set 0⟩
                    case measure => simp [intOf]
          · have hx2 : (x : Int) ≤ 9223372036854775808 := by omega
            have hx3 : 9223372036854775808 ≤ (x : Int) := by omega
            clear hx1
            go_wp2_with fail
            go_loopw [14] (fun i wr => ∃ (p : List Nat) (j : Nat), Hid (digs F f0 k = p ++ List.replicate j 9) ∧ i = .int .i64 ((p.length : Int) - 1) ∧ MInv w ao cap k (p ++ List.replicate j 0) wr) (fun i _ => ((intOf i) + 1).toNat)
            case atStart => exact ⟨digs F f0 k, 0, HL0, by rw [digs_length], by simpa using hA⟩
            case round =>
              as_aux_lemma =>
                obtain ⟨p, j, HL, rfl, hA2⟩ := hrel
                rcases nil_or_snoc p with rfl | ⟨p, d, rfl⟩
                · have hr : rup (digs F f0 k) = (List.replicate j 0, true) := by rw [HL.out]; exact rup_nines j
                  have HR : Hid (rdW F f0 wh k = wh + 1 ∧ rdD F f0 wh k = List.replicate j 0) := by have h := HWD.out; rw [hr] at h; simp at h; exact h
                  have e1 : ((([] : List Nat).length : Nat) : Int) - 1 = -1 := rfl
                  rw [e1]
                  clear hr e1
                  go_wp2_with fail
                  go_meet
                  case rel => rw [HR.out.1, HR.out.2]; exact ⟨by go_num, by simpa using hA2⟩
                · have hl : digs F f0 k = p ++ d :: List.replicate j 9 := by rw [HL.out]; simp
                  have hpk : p.length < k := by have h := congrArg List.length hl; rw [digs_length] at h; simp at h; omega
                  have hd9 : d ≤ 9 := h9 d (by rw [hl]; simp)
                  have hA3 : MInv w ao cap k (p ++ d :: List.replicate j 0) wr := by simpa using hA2
                  obtain ⟨g, hg⟩ := hA3.addr (by omega)
                  subst hg
                  have e1 : ((p ++ [d]).length : Int) - 1 = (p.length : Int) := by simp
                  rw [e1]
                  have hc : wr.cell? ⟨g, p.length, none⟩ = some (.int .u8 d) := by rw [hA3.cell p.length hpk]; simp
                  have hf := hA3.fro p.length
                  have HA3 : Hid (MInv w (some ⟨g, 0, none⟩) cap k (p ++ d :: List.replicate j 0) wr) := hA3
                  by_cases hd : d < 9
                  · have hr : rup (digs F f0 k) = (p ++ (d + 1) :: List.replicate j 0, false) := by rw [hl]; exact rup_hit d j hd p
                    have HR : Hid (rdW F f0 wh k = wh ∧ rdD F f0 wh k = p ++ (d + 1) :: List.replicate j 0) := by have h := HWD.out; rw [hr] at h; simp at h; exact h
                    clear hr hl e1 HL hA2 hA3
                    go_wp2_with fail
                    go_meet
                    case rel => rw [HR.out.1, HR.out.2]; exact ⟨rfl, HA3.out.set (d + 1)⟩
                  · obtain rfl : d = 9 := by omega
                    have HL2 : Hid (digs F f0 k = p ++ List.replicate (j + 1) 9) := by rw [hl, List.replicate_succ]; exact rfl
                    clear hl e1 HL hA2 hA3
                    go_wp2_with fail
                    go_roundw
                    case rel => exact ⟨p, j + 1, HL2, by go_num, by rw [List.replicate_succ]; exact HA3.out.set 0⟩
                    case measure => simp [intOf]
        · have HWD : Hid (rdW F f0 wh k = wh ∧ rdD F f0 wh k = digs F f0 k) := rd_not (by rw [← Bool.not_eq_true]; exact fun h => hu (HDEC.out.1 h))
          by_cases hxe : x < 9223372036854775808
          · have hx3 : decide ((9223372036854775808 : Int) < (x : Int)) = false := decide_eq_false (by omega)
            have hx4 : ((x : Int) == 9223372036854775808) = false := beq_eq_false_iff_ne.2 (by omega)
            clear hu hxe hx64
            go_wp2_with fail
            go_meet
            case rel => rw [HWD.out.1, HWD.out.2]; exact ⟨rfl, hA⟩
          · have hx1 : (x : Int) ≤ 9223372036854775808 := by omega
            have hx2 : 9223372036854775808 ≤ (x : Int) := by omega
            obtain rfl : q = 0 := by omega
            clear hu hxe
            go_wp2_with fail
            go_meet
            case rel => rw [HWD.out.1, HWD.out.2]; exact ⟨rfl, hA⟩
  case rest =>
  obtain ⟨rfl, hA⟩ := hcut
  have hll := rdD_length F f0 wh k
  have hl9 := rdD_le hfF wh k
  have hWl := rdW_le F f0 wh k
  generalize hgl : rdD F f0 wh k = l at *
  generalize hgW : rdW F f0 wh k = W at *
  have HL : Hid (rdD F f0 wh k = l) := hgl
  have HWW : Hid (rdW F f0 wh k = W) := hgW
  have HLL : Hid (l.length = k) := hll
  have hkl : k ≤ l.length := by omega
  have hcaps := hA.caps
  clear hgl hgW hll
  iterate 2 go_step
  go_cut [10] (fun s10 wx => ∃ m : Nat, s10 = .slice ao m cap ∧ IsTrim l m ∧ wc = wx)
  case first =>
    as_aux_lemma =>
      go_wp2_with fail
      go_loop [10] (fun s10 => ∃ m : Nat, s10 = .slice ao m cap ∧ m ≤ k ∧ Hid (∀ j, m ≤ j → j < l.length → l.getD j 0 = 0)) (fun s10 => lenOf s10)
      case atStart => exact ⟨k, rfl, Nat.le_refl _, fun j hj hl => by have := HLL.out; omega⟩
      case round =>
        as_aux_lemma =>
          obtain ⟨m, rfl, hmk, HT⟩ := hrel
          cases m with
          | zero =>
            go_wp2_with fail
            go_meet
            case rel => exact ⟨0, rfl, ⟨Nat.zero_le _, HT.out, .inl rfl⟩, rfl⟩
          | succ m =>
            obtain ⟨g, hg⟩ := hA.addr (by omega)
            subst hg
            obtain ⟨d, hd⟩ : ∃ d, d = l.getD m 0 := ⟨_, rfl⟩
            have hc := hA.cell m (by omega)
            rw [← hd] at hc
            have HD : Hid (d = l.getD m 0) := hd
            clear hd
            by_cases hd0 : d = 0
            · have HT2 : Hid (∀ j, m ≤ j → j < l.length → l.getD j 0 = 0) := trim_step HD.out hd0 HT.out
              subst hd0
              go_wp2_with fail
              go_round
              case rel => exact ⟨m, rfl, by omega, HT2⟩
              case measure => simp [lenOf]
            · have hd0' : ((d : Int) == 0) = false := by rw [beq_eq_false_iff_ne]; omega
              have HR : Hid (IsTrim l (m + 1)) := ⟨by omega, HT.out, .inr (by rw [Nat.add_sub_cancel, ← HD.out]; exact hd0)⟩
              clear hd0
              go_wp2_with fail
              go_meet
              case rel => exact ⟨m + 1, rfl, HR.out, rfl⟩
  case rest =>
  obtain ⟨m, rfl, htr, rfl⟩ := hcut
  have hmk : m ≤ k := by have := htr.1; have := HLL.out; omega
  have hml : m ≤ l.length := by omega
  have HTR : Hid (IsTrim l m) := htr
  obtain ⟨sg, hsg⟩ : ∃ sg : Bool, sg = (decide (code < 0) && (W != 0 || m != 0)) := ⟨_, rfl⟩
  have HSG : Hid (sg = (decide (code < 0) && (W != 0 || m != 0))) := hsg
  have HOUT : Hid (outL code F f0 wh k m = signB sg ++ Lib.decDigits W ++ (if m = 0 then [] else 46 :: fracB (l.take m))) := outL_eq code F f0 wh k m W l sg HL.out HWW.out hsg hml
  clear htr hsg
  go_upto_region 31 with fail
  go_cut [146] (fun t wx => t = .bool sg ∧ wc = wx)
  case first =>
    as_aux_lemma =>
      by_cases hneg : code < 0
      · by_cases hW0 : W = 0
        · subst hW0
          by_cases hm0 : m = 0
          · subst hm0
            have hs : sg = false := by rw [HSG.out]; simp
            subst hs
            go_wp2_with fail
            go_meet
            case rel => exact ⟨rfl, rfl⟩
          · have hs : sg = true := by rw [HSG.out]; simp [hneg, hm0]
            have hm0' : ((m : Int) != 0) = true := by simpa using hm0
            subst hs
            go_wp2_with fail
            go_meet
            case rel => exact ⟨rfl, rfl⟩
        · have hs : sg = true := by rw [HSG.out]; simp [hneg, hW0]
          have hW0' : ((W : Int) != 0) = true := by simpa using hW0
          subst hs
          go_wp2_with fail
          go_meet
          case rel => exact ⟨rfl, rfl⟩
      · have hs : sg = false := by rw [HSG.out]; simp [hneg]
        have hneg' : decide (code < 0) = false := decide_eq_false hneg
        subst hs
        go_wp2_with fail
        go_meet
        case rel => exact ⟨rfl, rfl⟩
  case rest =>
  obtain ⟨rfl, rfl⟩ := hcut
  have hao : 0 < k → ∃ g, ao = some ⟨g, 0, none⟩ := fun h => hA.addr h
  have hO := oinv_start hA
  obtain ⟨B, hB⟩ : ∃ B, B = wc.heap.size := ⟨_, rfl⟩
  rw [← hB] at hO
  clear hB hA
  go_upto_if 146 with fail
  go_cut [15] (fun v wx => OInv w B ao k l v (signB sg).length (Lib.byteCells (signB sg)) wx)
  case first =>
    as_aux_lemma =>
      cases sg
      · go_wp2_with fail
        go_meet
        case rel => simpa [signB, Lib.byteCells] using hO
      · go_wp2_with (first | (at_builtin; refine wpList_opush rfl (.tmp 147) (.tmp 148) rfl rfl _ rfl rfl 45 hO (by omega) ?_; intro v1 w1 hO1))
        go_meet
        case rel => simpa [signB, Lib.byteCells] using hO1
  case rest =>
  clear hO
  have hO := hcut
  clear hcut
  have hsl1 := sign_len sg
  have hdl := dec_len W (by omega)
  have hdp := dec_pos W
  have hz := zero39
  go_upto_region 34 with fail
  iterate 8 go_step
  clear hz
  have hO1 := hO.alloc (.cells Z39 39)
  have hH1 := heap_alloc_new wc (.cells Z39 39)
  have hBb := hO.size
  obtain ⟨bw, hbw⟩ : ∃ bw, bw = wc.heap.size := ⟨_, rfl⟩
  rw [← hbw] at hH1 hBb ⊢
  clear hbw
  go_cut [8, 17] (fun _ s17 wx => ∃ D, s17 = .int .i64 ((20 - (Lib.decDigits W).length : Nat) : Int) ∧ wx.heap[bw]? = some (.cells D 39 (0, 0)) ∧ Tail D (Lib.decDigits W) ∧ OInv w B ao k l u15 (signB sg).length (Lib.byteCells (signB sg)) wx)
  case first =>
    as_aux_lemma =>
      go_wp2_with fail
      go_loopw [8, 17] (fun s8 s17 wr => ∃ (u : Nat) (sfx : List UInt8) (D : Array Value), s8 = .int .u64 u ∧ s17 = .int .i64 ((20 - sfx.length : Nat) : Int) ∧ u < 18446744073709551616 ∧ Hid (Lib.decDigits W = Lib.decDigits u ++ sfx) ∧ wr.heap[bw]? = some (.cells D 39 (0, 0)) ∧ Tail D sfx ∧ OInv w B ao k l u15 (signB sg).length (Lib.byteCells (signB sg)) wr) (fun s8 _ _ => (intOf s8).toNat)
      case atStart => exact ⟨W, [], Z39, rfl, rfl, by omega, by show _ = _; simp, hH1, tail_nil Z39_size, hO1⟩
      case round =>
        as_aux_lemma =>
          obtain ⟨u, sfx, D, rfl, rfl, hu64, HDE, hD, hT, hO2⟩ := hrel
          have hst : sfx.length < 20 := by
            have h := congrArg List.length HDE.out
            have := dec_pos u
            simp at h; omega
          obtain ⟨kk, hkk⟩ : ∃ kk, kk = 19 - sfx.length := ⟨_, rfl⟩
          rw [show ((20 - sfx.length : Nat) : Int) = (kk : Int) + 1 by omega]
          have hk20 : kk < 20 := by omega
          obtain ⟨c, hc⟩ : ∃ c, c = u % 10 := ⟨_, rfl⟩
          obtain ⟨u', hu'⟩ : ∃ u', u' = u / 10 := ⟨_, rfl⟩
          have hc10 : c < 10 := by omega
          have e1 : (u : Int) % 10 = (c : Int) := by omega
          have e2 : (u : Int) / 10 = (u' : Int) := by omega
          have hcell : ∃ o, wr.cell? ⟨bw, kk, none⟩ = some o := ⟨D[kk]'(by rw [hT.1]; exact hk20), by rw [cell_of_row wr _ kk D 39 (0, 0) hD, Array.getElem?_eq_getElem]⟩
          obtain ⟨o, ho⟩ := hcell
          have hfz := frozen_of_row wr bw kk D 39 hD
          have HN : Hid ((wr.setCell ⟨bw, kk, none⟩ (.int .u8 (48 + (c : Int)))).heap[bw]? = some (.cells (D.setIfInBounds kk (.int .u8 (48 + (c : Int)))) 39 (0, 0)) ∧ Tail (D.setIfInBounds kk (.int .u8 (48 + (c : Int)))) ((48 + c).toUInt8 :: sfx) ∧ OInv w B ao k l u15 (signB sg).length (Lib.byteCells (signB sg)) (wr.setCell ⟨bw, kk, none⟩ (.int .u8 (48 + (c : Int))))) := by
            refine ⟨heap_setCell_same _ _ _ _ _ _ hD, ?_, hO2.wrote hD hBb ((Wrote.refl _ _).set _ _)⟩
            have h := tail_cons hT hst (48 + c) (by omega)
            rw [← hkk, show (((48 + c : Nat)) : Int) = 48 + (c : Int) by omega] at h; exact h
          have HKK : Hid (kk = 19 - sfx.length) := hkk
          have HC : Hid (c = u % 10) := hc
          have HU : Hid (u' = u / 10) := hu'
          have hu'u : u' * 10 ≤ u := by omega
          clear hkk hc hu' hD hT hO2
          by_cases h0 : u' = 0
          · have HF1 : Hid (Lib.decDigits W = (48 + c).toUInt8 :: sfx) := by
              show _ = _
              rw [HDE.out, dec_small (by rw [← HU.out]; exact h0), ← HC.out]; simp
            subst h0
            go_wp2_with fail
            go_meet
            case rel =>
              refine ⟨_, ?_, HN.out.1, by rw [HF1.out]; exact HN.out.2.1, HN.out.2.2⟩
              rw [HF1.out]; congr 1; have := HKK.out; simp; omega
          · have HF1 : Hid (Lib.decDigits W = Lib.decDigits u' ++ ((48 + c).toUInt8 :: sfx)) := by
              show _ = _
              rw [HDE.out, dec_big (by rw [← HU.out]; exact h0), ← HC.out, ← HU.out]; simp
            have h0' : ((u' : Int) == 0) = false := by rw [beq_eq_false_iff_ne]; omega
            have hlt : u' < u := by omega
            go_wp2_with fail
            go_roundw
            case rel => exact ⟨u', (48 + c).toUInt8 :: sfx, _, rfl, by congr 1; have := HKK.out; simp; omega, by omega, HF1, HN.out⟩
            case measure => simp [intOf]; omega
  case rest =>
  obtain ⟨D, rfl, hD, hT, hO2⟩ := hcut
  clear hO hO1 hH1
  obtain ⟨L, hL⟩ : ∃ L, L = (Lib.decDigits W).length := ⟨_, rfl⟩
  rw [← hL] at hdl hdp ⊢
  have hTc := hT.cell hD
  rw [← hL] at hTc
  have HTC : Hid (∀ j u, (Lib.byteCells (Lib.decDigits W))[j]? = some u → wc.cell? ⟨bw, 20 - L + j, none⟩ = some u) := hTc
  have hsl : ∀ W', (Instr.sliceAt 39 (.pointer (some ⟨bw, 0, none⟩)) (some (.int .i64 ((20 - L : Nat) : Int))) none none).run Ybad.prog W' = .ok (.slice (some ⟨bw, 20 - L, none⟩) L L) W' := fun W' => by
    rw [slice39 bw (20 - L) (by omega), show 20 - (20 - L) = L by omega]
  have HL2 : Hid ((Lib.decDigits W).length = L) := hL.symm
  clear hTc hL hT hD
  by_cases hm0 : m = 0
  · subst hm0
    go_wp2_with (first | (at_builtin; refine wpList_omany rfl (.tmp 162) (.tmp 164) rfl rfl bw (20 - L) L L rfl (Lib.decDigits W) HL2.out HTC.out hO2 (by omega) ?_; intro v3 w3 hO3))
    go_ret
    refine HPOST.out k 0 v3 B w3 HND.out (by rw [HL.out]; exact HTR.out) hO3.base ?_ hO3.below
    have ho := hO3.own
    rw [HOUT.out]
    rw [← HL2.out] at ho
    simpa [Lib.byteCells_append] using ho
  · have hm1 : 0 < (m : Int) := by omega
    obtain ⟨g, hg⟩ : ∃ g, ao = some ⟨g, 0, none⟩ := hao (by omega)
    subst hg
    go_wp2_with (first | (at_builtin; refine wpList_omany rfl (.tmp 162) (.tmp 164) rfl rfl bw (20 - L) L L rfl (Lib.decDigits W) HL2.out HTC.out hO2 (by omega) ?_; intro v3 w3 hO3) | (at_builtin; refine wpList_opush rfl (.tmp 169) (.tmp 170) rfl rfl _ rfl rfl 46 hO3 (by omega) ?_; intro v4 w4 hO4))
    obtain ⟨n2, hn2⟩ : ∃ n2, n2 = (signB sg).length + L + 1 := ⟨_, rfl⟩
    obtain ⟨ys, hys⟩ : ∃ ys, ys = Lib.byteCells (signB sg) ++ Lib.byteCells (Lib.decDigits W) ++ [Value.int .u8 46] := ⟨_, rfl⟩
    have hb2 : n2 < 200 := by omega
    rw [← hn2, ← hys] at hO4
    have HN2 : Hid (n2 = (signB sg).length + L + 1) := hn2
    have HYS : Hid (ys = Lib.byteCells (signB sg) ++ Lib.byteCells (Lib.decDigits W) ++ [Value.int .u8 46]) := hys
    clear hn2 hys hO3 hO2
    go_loopw [15, 174] (fun v i wr => ∃ j : Nat, j ≤ m ∧ i = .int .i64 j ∧ OInv w B (some ⟨g, 0, none⟩) k l v (n2 + j) (ys ++ Lib.byteCells (fracB (l.take j))) wr) (fun _ i _ => m - (intOf i).toNat)
    case atStart => exact ⟨0, by omega, rfl, by simpa [fracB, Lib.byteCells] using hO4⟩
    case round =>
      as_aux_lemma =>
        obtain ⟨j, hj, rfl, hO5⟩ := hrel
        by_cases hlt : j < m
        · obtain ⟨d, hd⟩ : ∃ d, d = l.getD j 0 := ⟨_, rfl⟩
          have hc := (hO5.ds g rfl).2 j (by omega)
          rw [← hd] at hc
          have hd9 : d ≤ 9 := by rw [hd]; exact getD_le l hl9 j
          have HS : Hid (Lib.byteCells (fracB (l.take (j + 1))) = Lib.byteCells (fracB (l.take j)) ++ [.int .u8 (48 + (d : Int))]) := by
            have h := frac_snoc l j (by omega) (by rw [← hd]; exact hd9)
            rw [← hd] at h
            rw [show (48 + (d : Int)) = ((48 + d : Nat) : Int) by omega]; exact h
          clear hd
          go_wp2_with (first | (at_builtin; refine wpList_opush rfl (.tmp 178) (.tmp 181) rfl rfl _ rfl rfl (48 + (d : Int)) hO5 (by omega) ?_; intro v6 w6 hO6))
          go_roundw
          case rel => exact ⟨j + 1, by omega, by go_num, by rw [HS.out, ← List.append_assoc, ← Nat.add_assoc]; exact hO6⟩
          case measure => simp [intOf]; omega
        · obtain rfl : j = m := by omega
          go_wp2_with fail
          go_ret
          refine HPOST.out k j _ B _ HND.out (by rw [HL.out]; exact HTR.out) hO5.base ?_ hO5.below
          have ho := hO5.own
          rw [HOUT.out, if_neg hm0]
          have e1 : (signB sg ++ Lib.decDigits W ++ 46 :: fracB (l.take j)).length = n2 + j := by
            have hll : (fracB (l.take j)).length = j := by simp [fracB]; omega
            simp only [List.length_append, List.length_cons, hll, HL2.out]; have := HN2.out; omega
          have e2 : Lib.byteCells (signB sg ++ Lib.decDigits W ++ 46 :: fracB (l.take j)) = ys ++ Lib.byteCells (fracB (l.take j)) := by
            rw [HYS.out]; simp [Lib.byteCells]
          rw [e1, e2]; exact ho
end Go.Proofs.YbulkcxwcDoor
