import Derived.Test.YbulkcxwqFmtModel
import Derived.OwnWalk
import Derived.Deep.DeepCutAuto
namespace Go.Proofs.YbulkcxwqFmt
open Go.RowKit Go.Extern.Stop Go.Stop Go.Extern

def u8s (zs : List Int) : List Value := zs.map (Value.int .u8)
theorem info5 : (Ybaf.prog.info? 5).map (fun i => (i.zero, i.size, i.bytes)) = some (some (.int .u8 0), 1, 1) := by kernel_rfl

theorem neq_nil (a : Option Addr) (n c : Nat) (w : World) : (binOp .neq 22 (.slice a n c) (.slice none 0 0)).run Ybaf.prog w = .ok (.bool (!a.isNone)) w := run_neq_slice_nil_any w 22 5 a n c 0 0 Ybaf.underlying22
/-- The header's first byte. -/
def hd0 (hi k : Nat) : UInt8 := (hi / 16 * 16 + k / 256).toUInt8
def hd1 (k : Nat) : UInt8 := (k % 256).toUInt8
theorem hd0_val (hi k : Nat) (h1 : hi ≤ 255) (h2 : k ≤ 4095) : (hd0 hi k).toNat = hi / 16 * 16 + k / 256 := by
  simp only [hd0, Nat.toUInt8, UInt8.toNat_ofNat']; omega
theorem hd1_val (k : Nat) : (hd1 k).toNat = k % 256 := by
  simp only [hd1, Nat.toUInt8, UInt8.toNat_ofNat']; omega
theorem hd_len (hi k : Nat) (h1 : hi ≤ 255) (h2 : k ≤ 4095) : len12 (hd0 hi k) (hd1 k) = k := by
  unfold len12; rw [hd0_val hi k h1 h2, hd1_val]; omega
theorem and240 (hi : Nat) (h : hi ≤ 255) : bits .and .u8 (hi : Int) 240 = ((hi / 16 * 16 : Nat) : Int) := by
  have h1 := u8_and_nat hi 240 (by omega) (by omega)
  have h2 : hi &&& 240 = hi / 16 * 16 := by
    have e : ∀ x : Fin 256, x.val &&& 240 = x.val / 16 * 16 := by decide +kernel
    exact e ⟨hi, by omega⟩
  rw [h2] at h1; exact h1
theorem orhd (hi k : Nat) (h1 : hi ≤ 255) (h2 : k ≤ 4095) : bits .or .u8 ((hi / 16 * 16 : Nat) : Int) ((k / 256 : Nat) : Int) = (((hd0 hi k).toNat : Nat) : Int) := by
  rw [u8_or_nat _ _ (by omega) (by omega), hd0_val hi k h1 h2]
  have h := Nat.shiftLeft_add_eq_or_of_lt (i := 4) (show k / 256 < 2 ^ 4 by omega) (hi / 16)
  rw [Nat.shiftLeft_eq] at h
  rw [← h]

theorem cell_two_new (w : World) (x y : Value) : ∀ ad, (some ⟨w.heap.size, 0, none⟩ : Option Addr) = some ad → ∀ j u, [x, y][j]? = some u → (w.alloc (.cells #[x, y] 5)).cell? (ad.add j) = some u := by
  intro ad had j u hu
  cases had
  rw [show (⟨w.heap.size, 0, none⟩ : Addr).add j = ⟨w.heap.size, j, none⟩ from by unfold Addr.add; split <;> simp_all, cell_of_row _ _ _ _ _ _ (heap_alloc_new w _)]
  simpa using hu
theorem src_of {w : World} {a0 : Option Addr} {len : Nat} {zs : List Int} (h : Lib.BytesIn w a0 len zs) (hl : zs.length = len) : ∀ ad, a0 = some ad → ∀ j u, (u8s zs)[j]? = some u → w.cell? (ad.add j) = some u := by
  intro ad had j v hv
  subst had
  have hj : j < zs.length := by have := (List.getElem?_eq_some_iff.1 hv).1; simpa [u8s] using this
  obtain ⟨b, off, hb, hc⟩ := h (by omega)
  cases hb
  have e : v = .int .u8 (zs.getD j 0) := by
    simp [u8s, List.getElem?_eq_getElem hj] at hv
    simp [List.getElem?_eq_getElem hj, ← hv]
  rw [show (⟨b, off, none⟩ : Addr).add j = ⟨b, off + j, none⟩ from by unfold Addr.add; split <;> simp_all, hc j (by omega), e]
theorem bytesIn_of {w w1 : World} {a0 : Option Addr} {len : Nat} {zs : List Int} (h : Lib.BytesIn w a0 len zs) (hg : Below w.heap.size w w1) : Lib.BytesIn w1 a0 len zs := fun hp => by
  obtain ⟨b, off, rfl, hc⟩ := h hp
  exact ⟨b, off, rfl, fun i hi => by rw [hg.cell (World.block_lt_of_cell? w _ (hc i hi))]; exact hc i hi⟩
theorem below1 {w w1 w2 : World} {o : Obj} (g1 : w.grownBy w1 none) (g2 : (w1.alloc o).grownBy w2 (some w.heap.size)) : Below w.heap.size w w2 := by
  have b1 : Below w.heap.size w w1 := (Below.refl _ _).grown g1 (by simp) (by simp)
  refine (b1.alloc b1.size o).grown g2 (by have := b1.size; simp; omega) (by simp)
theorem below2 {w w1 w2 : World} (b1 : Below w.heap.size w w1) (g2 : w1.grownBy w2 (some w.heap.size)) : Below w.heap.size w w2 := b1.grown g2 b1.size (by simp)

theorem getD_u8 (zs : List Int) (i : Nat) (h : i < zs.length) : (u8s zs)[i]? = some (.int .u8 (zs.getD i 0)) := by
  simp [u8s, List.getElem?_eq_getElem h]
theorem eq_all {w : World} {p1 p2 : Option Addr} {n c d : Nat} {xs : List Int} (h : xs.length = n) (h1 : Lib.BytesIn w p1 n xs) (h2 : Lib.BytesIn w p2 n xs) :
    Calls Ybaf.prog 6 #[.slice p1 n c, .slice p2 n d] w fun e w' => e = .returned (.bool true) ∧ w' = w := by
  have hc := Ybaf.bytes_Equal_all p1 p2 n c n d xs xs w h h h1 h2
  simpa using hc

/-- What the two reads of the built buffer give. -/
theorem built {F : Interp} {hi k len2 cap1 cap2 : Nat} {a1 a2 : Option Addr} {P T : List Int} {nm : ByteArray} {w w4 : World} (hF : F.answers w.tape) (hhi : hi ≤ 255) (hk : k ≤ 4095) (hl2 : len2 ≤ 65536) (hP : P.length = k) (hT : T.length = len2) (b4 : Below w.heap.size w w4) (h1 : Lib.BytesIn w a1 k P) (h2 : Lib.BytesIn w a2 len2 T)
    (o4 : w4.ownsRow w.heap.size 5 1 (.slice (some ⟨w.heap.size, 0, none⟩) (2 + k + len2) (2 + k + len2)) (2 + k + len2) ([] ++ [.int .u8 (bits .or .u8 ((hi : Int) / 16 * 16) ((k : Int) / 256)), .int .u8 ((k : Int) % 256)] ++ u8s P ++ u8s T)) :
    Calls Ybaf.prog 5 #[.slice (some ⟨w.heap.size, 0, none⟩) (2 + k + len2) (2 + k + len2), .string nm] w4 fun e w' => ∃ la lc ra rc, e = .returned (.tuple #[.slice (some la) k lc, .slice (some ra) len2 rc, .nilIface]) ∧ Below w.heap.size w w' ∧
      Hid (Calls Ybaf.prog 6 #[.slice (some la) k lc, .slice a1 k cap1] w' fun e w'' => e = .returned (.bool true) ∧ w'' = w') ∧
      Hid (Calls Ybaf.prog 6 #[.slice (some ra) len2 rc, .slice a2 len2 cap2] w' fun e w'' => e = .returned (.bool true) ∧ w'' = w') ∧
      Hid (0 < k → Calls Ybaf.prog 5 #[.slice (some ⟨w.heap.size, 0, none⟩) (1 + k) (2 + k + len2), .string nm] w' fun e w'' => (∃ p, e = .returned (.tuple #[.slice none 0 0, .slice none 0 0, .iface 40 (.pointer (some p))])) ∧ Below w'.heap.size w' w'') := by
  have e0 : bits .or .u8 ((hi : Int) / 16 * 16) ((k : Int) / 256) = (((hd0 hi k).toNat : Nat) : Int) := orhd hi k hhi hk
  have e1 : (k : Int) % 256 = (((hd1 k).toNat : Nat) : Int) := by rw [hd1_val]; omega
  rw [e0, e1] at o4
  have hN := hd_len hi k hhi hk
  have hc0 : w4.cell? ⟨w.heap.size, 0, none⟩ = some (.int .u8 (hd0 hi k).toNat) := by rw [o4.cellAt 0 (by omega)]; simp
  have hc1 : w4.cell? ⟨w.heap.size, 0 + 1, none⟩ = some (.int .u8 (hd1 k).toNat) := by rw [o4.cellAt (0 + 1) (by omega)]; simp
  have hcP : ∀ i, i < k → w4.cell? ⟨w.heap.size, 2 + i, none⟩ = some (.int .u8 (P.getD i 0)) := fun i hi' => by
    rw [o4.cellAt (2 + i) (by omega), ← getD_u8 P i (by omega), List.append_assoc, List.append_assoc, List.nil_append, List.getElem?_append_right (by simp), List.getElem?_append_left (by simp [u8s]; omega)]
    congr 1; simp
  have hcT : ∀ i, i < len2 → w4.cell? ⟨w.heap.size, 2 + k + i, none⟩ = some (.int .u8 (T.getD i 0)) := fun i hi' => by
    rw [o4.cellAt (2 + k + i) (by omega), ← getD_u8 T i (by omega), List.getElem?_append_right (by simp [u8s]; omega)]
    congr 1; simp [u8s]; omega
  have hs4 : w.heap.size < w4.heap.size := World.block_lt_of_cell? w4 _ hc0
  refine (sl_ok w.heap.size 0 (2 + k + len2) (2 + k + len2) (hd0 hi k) (hd1 k) nm w4 (by omega) (Nat.le_refl _) (by omega) (by omega) hc0 hc1).mono ?_
  rintro e w5 ⟨la, lc, ra, rc, rfl, _, _, hla, hra, hb5⟩
  rw [hN] at hla hra ⊢
  rw [show 2 + k + len2 - (2 + k) = len2 by omega] at hra ⊢
  have k5 : ∀ i v, w4.cell? ⟨w.heap.size, i, none⟩ = some v → w5.cell? ⟨w.heap.size, i, none⟩ = some v := fun i v h => by rw [hb5.cell hs4]; exact h
  have b5 : Below w.heap.size w w5 := b4.trans (hb5.mono (by omega))
  refine ⟨la, lc, ra, rc, rfl, b5, eq_all hP (fun hp => ⟨w.heap.size, 2, by rw [hla hp], fun i hi' => k5 _ _ (hcP i hi')⟩) (bytesIn_of h1 b5), eq_all hT (fun hp => ⟨w.heap.size, 2 + k, by rw [hra hp]; simp, fun i hi' => k5 _ _ (hcT i hi')⟩) (bytesIn_of h2 b5), fun hp => ?_⟩
  exact sl_over F w.heap.size 0 (1 + k) (2 + k + len2) (hd0 hi k) (hd1 k) nm w5 (by rw [b5.tape]; exact hF) (by omega) (by omega) (by rw [hN]; omega) (k5 _ _ hc0) (k5 _ _ hc1)

set_option maxRecDepth 100000 in
set_option maxHeartbeats 2000000 in
theorem rt_any (F : Interp) (hi : Nat) (a1 a2 : Option Addr) (len1 cap1 len2 cap2 : Nat) (P T : List Int) (nm : ByteArray) (w : World) (hF : F.answers w.tape) (hhi : hi ≤ 255) (hl2 : len2 ≤ 65536) (hm1 : len1 ≤ 9223372036854775807) (hc1 : len1 ≤ cap1) (_hx1 : cap1 ≤ 9223372036854775807)
    (hP : P.length = min len1 4095) (hT : T.length = len2) (hin1 : Lib.BytesIn w a1 (min len1 4095) P) (hin2 : Lib.BytesIn w a2 len2 T) (hn1 : a1 = none → len1 = 0 ∧ cap1 = 0) (hn2 : a2 = none → len2 = 0 ∧ cap2 = 0) :
    Calls Ybaf.prog 4 #[.int .u8 hi, .slice a1 len1 cap1, .slice a2 len2 cap2, .string nm] w fun e w' => e = .returned (.bool true) ∧ Below w.heap.size w w' := by
  obtain ⟨i0, hi0, hz0, hz1, hz2⟩ := info_parts info5
  have hl2' : (len2 : Int) ≤ 65536 := by omega
  obtain ⟨k, hk⟩ : ∃ k, k = min len1 4095 := ⟨_, rfl⟩
  rw [← hk] at hP hin1
  have HI1 : Hid (Lib.BytesIn w a1 k P) := hin1
  have HI2 : Hid (Lib.BytesIn w a2 len2 T) := hin2
  have HN1 : Hid (a1 = none → len1 = 0 ∧ cap1 = 0) := hn1
  have HN2 : Hid (a2 = none → len2 = 0 ∧ cap2 = 0) := hn2
  have HK : Hid (k = min len1 4095) := hk
  clear hin1 hin2 hn1 hn2 hk
  go_enter Ybaf.func4, Ybaf.ntmps4
  go_upto_if 23 with fail
  go_cut [9] (fun s9 wx => s9 = .int .i64 k ∧ w = wx)
  case first =>
    by_cases h : len1 ≤ 4095
    · have h' : (len1 : Int) ≤ 4095 := by omega
      go_wp2_with fail
      go_meet
      case rel => exact ⟨by rw [HK.out, show min len1 4095 = len1 by omega], rfl⟩
    · have h' : (4095 : Int) < (len1 : Int) := by omega
      go_wp2_with fail
      go_meet
      case rel => exact ⟨by rw [HK.out, show min len1 4095 = 4095 by omega]; rfl, rfl⟩
  case rest =>
  obtain ⟨rfl, rfl⟩ := hcut
  have hkl : k ≤ len1 := by have := HK.out; omega
  have hk4 : k ≤ 4095 := by have := HK.out; omega
  go_upto_region 7 with (first
    | (at_make; refine wpList_make_own _ rfl (.const (.int .i64 0)) (.tmp 28) 22 rfl w.heap.size 5 i0 (.int .u8 0) 1 Ybaf.underlying22 hi0 hz0 hz1 .i64 .i64 _ (2 + k + len2) rfl rfl (by omega) (by rw [hz2]; omega) (by unfold maxLen; omega) (Nat.le_refl _) ?_; intro w1 o1 g1))
  have E1 := and240 hi hhi
  go_upto_region 8 with (first
    | (at_builtin; refine wpList_append_fits_any _ rfl (.tmp 30) (.tmp 39) 22 rfl w.heap.size 5 i0 1 Ybaf.underlying22 hi0 hz1 w.heap.size 0 (2 + k + len2) [] rfl (o1.alloc _) (some ⟨w1.heap.size, 0, none⟩) 2 2 [.int .u8 (bits .or .u8 ((hi : Int) / 16 * 16) ((k : Int) / 256)), .int .u8 ((k : Int) % 256)] rfl rfl (by simp) (cell_two_new _ _ _) (by simp [Value.oneCell']) (by omega) ?_; intro w2 o2 g2))
  have b2 := below1 g1 g2
  have HP2 : Hid (Lib.BytesIn w2 a1 k P) := bytesIn_of HI1.out b2
  have hk1 : (k : Int) ≤ (cap1 : Int) := by omega
  clear o1 g1 g2 E1
  go_upto_region 9 with (first
    | (at_builtin; refine wpList_append_fits_any _ rfl (.tmp 41) (.tmp 44) 22 rfl w.heap.size 5 i0 1 Ybaf.underlying22 hi0 hz1 w.heap.size _ (2 + k + len2) _ rfl o2 a1 k cap1 (u8s P) rfl (by simp [u8s, hP]) (fun h => by have := HN1.out h; omega) (src_of HP2.out hP) (by simp [u8s, Value.oneCell']) (by omega) ?_; intro w3 o3 g3))
  have b3 := below2 b2 g3
  have HT3 : Hid (Lib.BytesIn w3 a2 len2 T) := bytesIn_of HI2.out b3
  clear o2 g3 HP2 b2
  go_upto_region 10 with (first
    | (at_builtin; refine wpList_append_fits_any _ rfl (.tmp 46) (.tmp 47) 22 rfl w.heap.size 5 i0 1 Ybaf.underlying22 hi0 hz1 w.heap.size _ (2 + k + len2) _ rfl o3 a2 len2 cap2 (u8s T) rfl (by simp [u8s, hT]) HN2.out (src_of HT3.out hT) (by simp [u8s, Value.oneCell']) (by omega) ?_; intro w4 o4 g4))
  have b4 := below2 b3 g4
  have HO : Hid (Calls Ybaf.prog 5 #[.slice (some ⟨w.heap.size, 0, none⟩) (2 + k + len2) (2 + k + len2), .string nm] w4 fun e w' => ∃ la lc ra rc, e = .returned (.tuple #[.slice (some la) k lc, .slice (some ra) len2 rc, .nilIface]) ∧ Below w.heap.size w w' ∧
      Hid (Calls Ybaf.prog 6 #[.slice (some la) k lc, .slice a1 k cap1] w' fun e w'' => e = .returned (.bool true) ∧ w'' = w') ∧
      Hid (Calls Ybaf.prog 6 #[.slice (some ra) len2 rc, .slice a2 len2 cap2] w' fun e w'' => e = .returned (.bool true) ∧ w'' = w') ∧
      Hid (0 < k → Calls Ybaf.prog 5 #[.slice (some ⟨w.heap.size, 0, none⟩) (1 + k) (2 + k + len2), .string nm] w' fun e w'' => (∃ p, e = .returned (.tuple #[.slice none 0 0, .slice none 0 0, .iface 40 (.pointer (some p))])) ∧ Below w'.heap.size w' w'')) := built hF hhi hk4 hl2 hP hT b4 HI1.out HI2.out o4
  clear o4 o3 g4 b3 b4 HT3 hi0 hz0 hz1 hz2
  by_cases hk0 : k = 0
  · subst hk0
    go_wp2_with (first
      | (go_at_call 5; refine HO.out.mono ?_; rintro e w5 ⟨la, lc, ra, rc, rfl, b5, HE1, HE2, _⟩)
      | (go_at_call 6; refine HE1.out.mono ?_; rintro e w' ⟨rfl, hw'⟩; have hw2 := hw'.symm; clear hw'; subst hw2)
      | (go_at_call 6; refine HE2.out.mono ?_; rintro e w' ⟨rfl, hw'⟩; have hw2 := hw'.symm; clear hw'; subst hw2))
    go_ret
    exact ⟨rfl, b5⟩
  · have hk0' : (0 : Int) < (k : Int) := by omega
    have hkp : 0 < k := by omega
    go_wp2_with (first
      | (go_at_call 5; refine HO.out.mono ?_; rintro e w5 ⟨la, lc, ra, rc, rfl, b5, HE1, HE2, HS⟩; clear HO)
      | (go_at_call 6; refine HE1.out.mono ?_; rintro e w' ⟨rfl, hw'⟩; have hw2 := hw'.symm; clear hw'; subst hw2)
      | (go_at_call 6; refine HE2.out.mono ?_; rintro e w' ⟨rfl, hw'⟩; have hw2 := hw'.symm; clear hw'; subst hw2))
    refine (HS.out hkp).mono ?_
    rintro e w6 ⟨⟨p, rfl⟩, b6⟩
    have hq := neq_nil
    go_wp2_with fail
    go_ret
    exact ⟨rfl, b5.trans (b6.mono b5.size)⟩

theorem rt_long (hi : Int) (a1 a2 : Option Addr) (len1 cap1 len2 cap2 : Nat) (nm : ByteArray) (w : World) (h : 65536 < len2) (hm : len2 ≤ 9223372036854775807) :
    Calls Ybaf.prog 4 #[.int .u8 hi, .slice a1 len1 cap1, .slice a2 len2 cap2, .string nm] w fun e w' => e = .returned (.bool true) ∧ Below w.heap.size w w' := by
  have h1 : (65536 : Int) < (len2 : Int) := by omega
  go_enter Ybaf.func4, Ybaf.ntmps4
  go_wp2_with fail
  go_ret
  exact ⟨rfl, Below.refl _ _⟩
end Go.Proofs.YbulkcxwqFmt
