import Derived.Test.YbulkcxwcDoorModel
import Derived.Laws.CopyOwn
import Derived.Deep.RegionWith
namespace Go.Proofs.YbulkcxwcDoor
open Go.RowKit

def u8s (zs : List Int) : List Value := zs.map (Value.int .u8)
theorem size5 : (Ybad.prog.info? 5).map (·.size) = some 1 := by kernel_rfl

/-- What 'make' has made, 'copy' has filled. -/
theorem own_made {w : World} {B g g' n : Nat} {xs : List Value} (h : w.ownsRow B 5 1 (.slice (some ⟨g', 0, none⟩) n n) n xs) (e : g' = g) : ∃ cur : List Value, w.heap[g]? = some (.cells cur.toArray 5 (0, 0)) ∧ cur.length = n := by
  subst e
  rcases h.2 with ⟨h', _⟩ | ⟨g', cap', cur, h', _, hg, _, _, hs, _⟩
  · simp at h'
  · simp only [Value.slice.injEq, Option.some.injEq, Addr.mk.injEq, and_true, true_and] at h'
    obtain ⟨rfl, rfl⟩ := h'
    exact ⟨cur.toList, by simpa using hg, by simpa using hs⟩

theorem bytesIn_grown {w w1 : World} {o : Obj} {a0 : Option Addr} {len : Nat} {zs : List Int} (h : Lib.BytesIn w a0 len zs) (hg : (w.alloc o).grownBy w1 none) : Lib.BytesIn w1 a0 len zs := fun hp => by
  obtain ⟨b, off, rfl, hc⟩ := h hp
  refine ⟨b, off, rfl, fun i hi => ?_⟩
  have hb := World.block_lt_of_cell? w _ (hc i hi)
  exact hg.cell (by rw [World.cell?_alloc_lt _ _ _ hb]; exact hc i hi) (by simp)
theorem bytesIn_pos {w : World} {a0 dp : Option Addr} {len g : Nat} {zs : List Int} (h : Lib.BytesIn w a0 len zs) (hl : zs.length = len) (hd : dp = some ⟨g, 0, none⟩) :
    0 < (u8s zs).length → dp = some ⟨g, 0, none⟩ ∧ ∃ ad, a0 = some ad ∧ ∀ j v, (u8s zs)[j]? = some v → w.cell? (ad.add j) = some v := fun hp => by
  have hp' : 0 < len := by simpa [u8s, hl] using hp
  obtain ⟨b, off, rfl, hc⟩ := h hp'
  refine ⟨hd, _, rfl, fun j v hv => ?_⟩
  have hj : j < zs.length := by have := (List.getElem?_eq_some_iff.1 hv).1; simpa [u8s] using this
  have e : v = .int .u8 (zs.getD j 0) := by
    simp [u8s, List.getElem?_eq_getElem hj] at hv
    simp [List.getElem?_eq_getElem hj, ← hv]
  rw [show (⟨b, off, none⟩ : Addr).add j = ⟨b, off + j, none⟩ from by unfold Addr.add; split <;> simp_all, hc j (by omega), e]

theorem after_copy {w w1 w2 : World} {n : Int} {a0 : Option Addr} {len : Nat} {zs : List Int} {cur : List Value} (hin : Lib.BytesIn w a0 len zs) (hzl : zs.length = len) (hlen : len ≤ 1024) (hcl : cur.length = len)
    (g1 : (w.alloc (.cells #[.int .u8 64, .int .u8 n] 25)).grownBy w1 none) (hb2 : Below (w.heap.size + 1) w1 w2) (hg2 : w2.heap[w.heap.size + 1]? = some (.cells (splice cur 0 (u8s zs)).toArray 5 (0, 0))) :
    w2.cell? ⟨w.heap.size, 0, none⟩ = some (.int .u8 64) ∧ w2.cell? ⟨w.heap.size, 1, none⟩ = some (.int .u8 n) ∧ w2.ownsRow w.heap.size 5 1 (.slice (some ⟨w.heap.size + 1, 0, none⟩) len len) len (u8s zs) ∧ Below w.heap.size w w2 ∧ Lib.BytesIn w2 a0 len zs := by
  have hs := g1.size
  simp at hs
  have b0 : w1.heap[w.heap.size]? = some (.cells #[.int .u8 64, .int .u8 n] 25 (0, 0)) := by
    rw [g1.block _ (by simp) (by simp)]; exact heap_alloc_new w _
  have b2 : w2.heap[w.heap.size]? = some (.cells #[.int .u8 64, .int .u8 n] 25 (0, 0)) := by rw [hb2.block _ (by omega)]; exact b0
  have e : splice cur 0 (u8s zs) = u8s zs := by simp [splice, u8s, hzl, hcl]
  rw [e] at hg2
  have bel : Below w.heap.size w w2 := (((Below.refl _ _).alloc (Nat.le_refl _) _).grown g1 (by simp) (by simp)).trans (hb2.mono (by omega))
  refine ⟨by rw [cell_of_row _ _ _ _ _ _ b2]; rfl, by rw [cell_of_row _ _ _ _ _ _ b2]; rfl, ⟨by simp [u8s, hzl], .inr ⟨w.heap.size + 1, len, (u8s zs).toArray, rfl, by omega, hg2, Nat.le_refl _, by unfold maxLen; omega, by simp [u8s, hzl], List.take_of_length_le (by simp [u8s, hzl])⟩⟩, bel, fun hp => ?_⟩
  obtain ⟨b, off, rfl, hc⟩ := hin hp
  refine ⟨b, off, rfl, fun i hi => ?_⟩
  rw [bel.cell (World.block_lt_of_cell? w _ (hc i hi))]; exact hc i hi
theorem own_shape {w : World} {B n : Nat} {v : Value} {xs : List Value} (h : w.ownsRow B 5 1 v n xs) (hn : 0 < n) : ∃ g cap, n ≤ cap ∧ cap ≤ 9223372036854775807 ∧ v = .slice (some ⟨g, 0, none⟩) n cap := by
  rcases h.2 with ⟨_, h0⟩ | ⟨g, cap, _, hv, _, _, hc, hm, _⟩
  · omega
  · exact ⟨g, cap, hc, by unfold maxLen at hm; exact hm, hv⟩
theorem outL_pos (code : Int) (F f0 wh nd m : Nat) : 0 < (outL code F f0 wh nd m).length := by
  unfold outL outB
  have := dec_pos (rdW F f0 wh nd)
  simp only [List.length_append]; omega

theorem bytesIn_below {w w1 : World} {a0 : Option Addr} {len : Nat} {zs : List Int} (h : Lib.BytesIn w a0 len zs) (hb : Below w.heap.size w w1) : Lib.BytesIn w1 a0 len zs := fun hp => by
  obtain ⟨b, off, rfl, hc⟩ := h hp
  refine ⟨b, off, rfl, fun i hi => ?_⟩
  rw [hb.cell (World.block_lt_of_cell? w _ (hc i hi))]; exact hc i hi
theorem getD_u8 (zs : List Int) (i : Nat) (h : i < zs.length) : (u8s zs)[i]? = some (.int .u8 (zs.getD i 0)) := by
  simp [u8s, List.getElem?_eq_getElem h]
theorem byteCells_u8 (X : List UInt8) : Lib.byteCells X = u8s (X.map fun b => (b.toNat : Int)) := by simp [Lib.byteCells, u8s]
theorem eq_prefix {w : World} {B g len N cap cap2 : Nat} {zs : List Int} {ys : List Value} {a0 : Option Addr} (h : w.ownsRow B 5 1 (.slice (some ⟨g, 0, none⟩) (len + N) cap) (len + N) (u8s zs ++ ys)) (hzl : zs.length = len) (hin : Lib.BytesIn w a0 len zs) :
    Calls Ybad.prog 5 #[.slice (some ⟨g, 0, none⟩) len cap, .slice a0 len cap2] w fun e w' => e = .returned (.bool true) ∧ w' = w := by
  have h1 : Lib.BytesIn w (some ⟨g, 0, none⟩) len zs := fun _ => ⟨g, 0, rfl, fun i hi => by
    rw [Nat.zero_add, h.cellAt i (by omega), List.getElem?_append_left (by simp [u8s]; omega), getD_u8 zs i (by omega)]⟩
  have hc := Ybad.bytes_Equal_all (some ⟨g, 0, none⟩) a0 len cap len cap2 zs zs w hzl hzl h1 hin
  simpa using hc
theorem eq_rest {w3 w4 : World} {B B4 g g4 len cap c cap4 : Nat} {zs : List Int} {X : List UInt8} (h : w3.ownsRow B 5 1 (.slice (some ⟨g, 0, none⟩) (len + X.length) cap) (len + X.length) (u8s zs ++ Lib.byteCells X)) (hzl : zs.length = len)
    (h4 : w4.ownsRow B4 5 1 (.slice (some ⟨g4, 0, none⟩) X.length cap4) X.length (Lib.byteCells X)) (hb : Below w3.heap.size w3 w4) :
    Calls Ybad.prog 5 #[.slice (some ⟨g, len, none⟩) X.length c, .slice (some ⟨g4, 0, none⟩) X.length cap4] w4 fun e w' => e = .returned (.bool true) ∧ w' = w4 := by
  rw [byteCells_u8] at h h4
  have hxl : (X.map fun b => (b.toNat : Int)).length = X.length := by simp
  have h1 : Lib.BytesIn w4 (some ⟨g, len, none⟩) X.length (X.map fun b => (b.toNat : Int)) := fun _ => ⟨g, len, rfl, fun i hi => by
    have hc : w3.cell? ⟨g, len + i, none⟩ = some (.int .u8 ((X.map fun b => (b.toNat : Int)).getD i 0)) := by
      rw [h.cellAt (len + i) (by omega), List.getElem?_append_right (by simp [u8s]; omega), show len + i - (u8s zs).length = i by simp [u8s, hzl], getD_u8 _ i (by rw [hxl]; exact hi)]
    rw [hb.cell (World.block_lt_of_cell? w3 _ hc)]; exact hc⟩
  have h2 : Lib.BytesIn w4 (some ⟨g4, 0, none⟩) X.length (X.map fun b => (b.toNat : Int)) := fun _ => ⟨g4, 0, rfl, fun i hi => by
    rw [Nat.zero_add, h4.cellAt i (by omega), getD_u8 _ i (by rw [hxl]; exact hi)]⟩
  have hc := Ybad.bytes_Equal_all (some ⟨g, len, none⟩) (some ⟨g4, 0, none⟩) X.length c X.length cap4 _ _ w4 hxl hxl h1 h2
  simpa using hc
theorem fin_model {code places : Int} {n nd m nd2 m2 B B4 g len cap3 cap : Nat} {X : List UInt8} {zs : List Int} {w3 w4 : World} {v4 : Value} (hX : X = outL code (2 ^ n) (code.natAbs % 2 ^ n) (code.natAbs / 2 ^ n) nd m) (a1 : IsNd places (2 ^ n) (code.natAbs % 2 ^ n) nd) (a2 : IsTrim (rdD (2 ^ n) (code.natAbs % 2 ^ n) (code.natAbs / 2 ^ n) nd) m)
    (h : w3.ownsRow B 5 1 (.slice (some ⟨g, 0, none⟩) (len + X.length) cap3) (len + X.length) (u8s zs ++ Lib.byteCells X)) (hzl : zs.length = len)
    (c1 : IsNd places (2 ^ n) (code.natAbs % 2 ^ n) nd2) (c2 : IsTrim (rdD (2 ^ n) (code.natAbs % 2 ^ n) (code.natAbs / 2 ^ n) nd2) m2)
    (o4 : w4.ownsRow B4 5 1 v4 (outL code (2 ^ n) (code.natAbs % 2 ^ n) (code.natAbs / 2 ^ n) nd2 m2).length (Lib.byteCells (outL code (2 ^ n) (code.natAbs % 2 ^ n) (code.natAbs / 2 ^ n) nd2 m2))) (hXp : 0 < X.length) (hb : Below w3.heap.size w3 w4) :
    ∃ g4 cap4, v4 = .slice (some ⟨g4, 0, none⟩) X.length cap4 ∧ Below w3.heap.size w3 w4 ∧ Hid (Calls Ybad.prog 5 #[.slice (some ⟨g, len, none⟩) X.length cap, .slice (some ⟨g4, 0, none⟩) X.length cap4] w4 fun e w' => e = .returned (.bool true) ∧ w' = w4) := by
  obtain rfl := isNd_unique a1 c1
  obtain rfl := isTrim_unique a2 c2
  rw [← hX] at o4
  obtain ⟨g4, cap4, _, _, hv⟩ := own_shape o4 hXp
  subst hv
  exact ⟨g4, cap4, rfl, hb, eq_rest h hzl o4 hb⟩

set_option maxRecDepth 100000 in
set_option maxHeartbeats 2000000 in
theorem law_any (fc : Int) (code places : Int) (a0 : Option Addr) (len cap : Nat) (zs : List Int) (w : World) (f0 : 0 ≤ fc) (f1 : fc ≤ 255) (h0 : -9223372036854775808 ≤ code) (h1 : code ≤ 9223372036854775807)
    (p0 : -9223372036854775808 ≤ places) (p1 : places ≤ 9223372036854775807) (hlen : len ≤ 1024) (hzl : zs.length = len) (hin : Lib.BytesIn w a0 len zs)
    (htab : Lib.TabIs Ybad.prog w "internal/strconv.uint64pow10" .u64 Lib.pow10Tab) :
    Calls Ybad.prog 3 #[.int .u8 fc, .int .i64 code, .int .i64 places, .slice a0 len cap] w fun e w' => e = .returned (.bool true) ∧ Below w.heap.size w w' := by
  obtain ⟨n, hn⟩ : ∃ n : Nat, fc % 65 = (n : Int) := ⟨(fc % 65).toNat, by omega⟩
  have hn64 : n ≤ 64 := by omega
  obtain ⟨i0, hi0, hz0, hz1, hz2⟩ := info_parts Ybad.info5
  have HI : Hid (Lib.BytesIn w a0 len zs) := hin
  clear hin
  go_enter Ybad.func3, Ybad.ntmps3
  go_upto_region 6 with (first
    | (at_make; refine wpList_make_full _ rfl (.tmp 23) (.tmp 23) 22 rfl (w.heap.size + 1) 5 i0 (.int .u8 0) 1 Ybad.underlying22 hi0 hz0 hz1 .i64 .i64 _ _ len rfl rfl rfl rfl (by rw [hz2]; omega) (by unfold maxLen; omega) (by simp) ?_; intro w1 o1 g1; obtain ⟨cur, hcur, hcl⟩ := own_made (g := w.heap.size + 1) o1 (by simp)))
  have HIN1 : Hid (Lib.BytesIn w1 a0 len zs) := bytesIn_grown HI.out g1
  clear o1
  go_upto_region 7 with (first
    | (refine wpList_copy_splice rfl (.tmp 25) (.tmp 26) 22 22 rfl 5 Ybad.underlying22 size5 _ _ len len len cap rfl rfl (w.heap.size + 1) 0 cur 5 hcur (u8s zs) (by simp [u8s, hzl]) (bytesIn_pos HIN1.out hzl rfl) (by simp [u8s, hzl, hcl]) (by simp [u8s, Value.oneCell']) (w.heap.size + 1) w1 (Below.refl _ _) (Nat.le_refl _) ?_; intro w2 hg2 hb2))
  obtain ⟨f0, f1, o2, b2, HI2⟩ := after_copy HI.out hzl hlen hcl g1 hb2 hg2.out
  clear hg2 hb2 hcur hcl HIN1 g1
  go_wp2_with fail
  have HT2 : Lib.TabBelow Ybad.prog w.heap.size w2 "internal/strconv.uint64pow10" .u64 Lib.pow10Tab := (Lib.tabBelow_of_tabIs htab).on b2
  refine (app_any code places n w.heap.size len len (some ⟨w.heap.size + 1, 0, none⟩) (u8s zs) w2 h0 h1 p0 p1 hn64 b2.size hlen o2 HT2).mono ?_
  rintro e w3 ⟨nd, m, v3, a1, a2, rfl, o3, b3⟩
  obtain ⟨X, hX⟩ : ∃ X, X = outL code (2 ^ n) (code.natAbs % 2 ^ n) (code.natAbs / 2 ^ n) nd m := ⟨_, rfl⟩
  rw [← hX] at o3
  have hXp : 0 < X.length := by rw [hX]; exact outL_pos _ _ _ _ _ _
  obtain ⟨g3, cap3, hc3, hm3, hv3⟩ := own_shape o3 (by omega)
  subst hv3
  have HX : Hid (X = outL code (2 ^ n) (code.natAbs % 2 ^ n) (code.natAbs / 2 ^ n) nd m ∧ IsNd places (2 ^ n) (code.natAbs % 2 ^ n) nd ∧ IsTrim (rdD (2 ^ n) (code.natAbs % 2 ^ n) (code.natAbs / 2 ^ n) nd) m) := ⟨hX, a1, a2⟩
  clear hX a1 a2 HT2 htab f0 f1 o2
  have HC : Hid (Calls Ybad.prog 5 #[.slice (some ⟨g3, 0, none⟩) len cap3, .slice a0 len cap] w3 fun e w' => e = .returned (.bool true) ∧ w' = w3) := eq_prefix o3 hzl (bytesIn_below HI.out (b2.trans b3))
  have HO3 : Hid (w3.ownsRow w.heap.size 5 1 (.slice (some ⟨g3, 0, none⟩) (len + X.length) cap3) (len + X.length) (u8s zs ++ Lib.byteCells X)) := o3
  have hb3 := b2.trans b3
  have hcl : ¬ cap3 = len := by omega
  clear o3
  go_wp2_with (first | (go_at_call 5; refine HC.out.mono ?_; rintro e w' ⟨rfl, hw'⟩; have hw2 := hw'.symm; clear hw'; subst hw2))
  clear HC
  go_region_with (first
    | (go_at_call 6; refine (model_any code places n _ h0 h1 p0 p1 hn64).mono ?_; rintro e w4 ⟨nd2, m2, v4, B4, c1, c2, rfl, c3, o4, b4⟩; obtain ⟨g4, cap4, hv4, b5, HC2⟩ := fin_model (len := len) (cap := cap3 - len) HX.out.1 HX.out.2.1 HX.out.2.2 HO3.out hzl c1 c2 o4 hXp (show Below w3.heap.size w3 w4 from ⟨b4.os, b4.tape, b4.output, b4.size, b4.block⟩); subst hv4; clear o4 b4 c1 c2)
    | (go_at_call 5; refine (HC2.out).mono ?_; rintro e w' ⟨rfl, hw'⟩; have hw2 := hw'.symm; clear hw'; subst hw2))
  all_goals (go_wp2_with fail; go_ret; exact ⟨rfl, hb3.trans (b5.mono hb3.size)⟩)

/-- More than 1024 bytes: true at once. -/
theorem law_long (fc code places : Int) (a0 : Option Addr) (len cap : Nat) (w : World) (hlen : 1024 < len) (hmax : len ≤ 9223372036854775807) :
    Calls Ybad.prog 3 #[.int .u8 fc, .int .i64 code, .int .i64 places, .slice a0 len cap] w fun e w' => e = .returned (.bool true) ∧ Below w.heap.size w w' := by
  have h1 : (1024 : Int) < (len : Int) := by omega
  go_enter Ybad.func3, Ybad.ntmps3
  go_wp2_with fail
  go_ret
  exact ⟨rfl, Below.refl _ _⟩
end Go.Proofs.YbulkcxwcDoor
