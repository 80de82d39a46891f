import Derived.Test.YbulkcxyuIntsRemove
namespace Go.Proofs.Ybulkcxyu.Ints
open Go.RowKit

theorem infoE : (Yba.prog.info? 3).map (fun i => (i.zero, i.size, i.bytes)) = some (some (.int .i64 0), 1, 8) := by kernel_rfl
theorem own_made {w : World} {B g g' n : Nat} {xs : List Value} (h : w.ownsRow B 3 1 (.slice (some ⟨g', 0, none⟩) n n) n xs) (e : g' = g) : ∃ cur : List Value, w.heap[g]? = some (.cells cur.toArray 3 (0, 0)) ∧ cur.length = n := by
  subst e
  rcases h.2 with ⟨h', _⟩ | ⟨g', cap', cur, h', _, hg, _, _, hs, _⟩
  · simp at h'
  · simp only [Value.slice.injEq, Option.some.injEq, Addr.mk.injEq, and_true, true_and] at h'
    obtain ⟨rfl, rfl⟩ := h'
    exact ⟨cur.toList, by simpa using hg, by simpa using hs⟩
/-- The n cells that came in. -/
def row (n : Nat) (z : Nat → Int) : List Value := (List.range n).map fun i => Value.int .i64 (z i)
theorem row_len (n : Nat) (z : Nat → Int) : (row n z).length = n := by simp [row]
theorem row_get (n : Nat) (z : Nat → Int) (j : Nat) (h : j < n) : (row n z)[j]? = some (Value.int .i64 (z j)) := by simp [row, h]
theorem src_row {w : World} {b off n g : Nat} {z : Nat → Int} {dp : Option Addr} (h : ∀ i, i < n → w.cell? ⟨b, off + i, none⟩ = some (Value.int .i64 (z i))) (hd : dp = some ⟨g, 0, none⟩) :
    0 < (row n z).length → dp = some ⟨g, 0, none⟩ ∧ ∃ ad, (some ⟨b, off, none⟩ : Option Addr) = some ad ∧ ∀ j v, (row n z)[j]? = some v → w.cell? (ad.add j) = some v := fun _ => by
  refine ⟨hd, _, rfl, fun j v hv => ?_⟩
  have hj : j < n := by have := (List.getElem?_eq_some_iff.1 hv).1; simpa [row_len] using this
  rw [row_get n z j hj] at hv
  cases hv
  rw [show (⟨b, off, none⟩ : Addr).add j = ⟨b, off + j, none⟩ from by unfold Addr.add; split <;> simp_all, h j hj]
theorem one_row (n : Nat) (z : Nat → Int) : ∀ v ∈ row n z, v.oneCell' = true := by
  intro v hv
  obtain ⟨i, _, rfl⟩ := List.mem_map.1 hv
  rfl
/-- Behind make and copy. -/
theorem after_copy {w w1 w2 : World} {b off n : Nat} {z : Nat → Int} {cur : List Value} (hz : ∀ i, i < n → w.cell? ⟨b, off + i, none⟩ = some (Value.int .i64 (z i))) (hcl : cur.length = n)
    (g1 : w.grownBy w1 none) (hb2 : Below w.heap.size w1 w2) (hg2 : w2.heap[w.heap.size]? = some (.cells (splice cur 0 (row n z)).toArray 3 (0, 0))) :
    w2.heap[w.heap.size]? = some (.cells (row n z).toArray 3 (0, 0)) ∧ Below w.heap.size w w2 ∧ ∀ i, i < n → w2.cell? ⟨b, off + i, none⟩ = some (Value.int .i64 (z i)) := by
  have e : splice cur 0 (row n z) = row n z := by simp [splice, row_len, hcl]
  rw [e] at hg2
  have bel : Below w.heap.size w w2 := ((Below.refl _ _).grown g1 (by simp) (by simp)).trans hb2
  exact ⟨hg2, bel, fun i hi => by rw [bel.cell (World.block_lt_of_cell? w _ (hz i hi))]; exact hz i hi⟩
/-- What the law reads behind removeAt. -/
theorem after_rem {w w2 w3 : World} {b off n k : Nat} {z : Nat → Int} (hn : 0 < n) (hk : k < n) (b2 : Below w.heap.size w w2) (hz : ∀ i, i < n → w.cell? ⟨b, off + i, none⟩ = some (Value.int .i64 (z i))) (b3 : Below w.heap.size w2 w3) (hg3 : w3.heap[w.heap.size]? = some (.cells ((row n z).eraseIdx k ++ [(.int .i64 0 : Value)]).toArray 3 (0, 0))) :
    Below w.heap.size w w3 ∧ (∀ i, i < n → w3.cell? ⟨b, off + i, none⟩ = some (Value.int .i64 (z i))) ∧ (∀ j, j < n - 1 → w3.cell? ⟨w.heap.size, j, none⟩ = some (Value.int .i64 (z (if j < k then j else j + 1)))) ∧ w3.cell? ⟨w.heap.size, n - 1, none⟩ = some (.int .i64 0) := by
  have bel := b2.trans b3
  have hl : ((row n z).eraseIdx k).length = n - 1 := by rw [List.length_eraseIdx, row_len]; simp [hk]
  refine ⟨bel, fun i hi => by rw [bel.cell (World.block_lt_of_cell? w _ (hz i hi))]; exact hz i hi, fun j hj => ?_, ?_⟩
  · rw [cell_of_row _ _ _ _ _ _ hg3, List.getElem?_toArray, List.getElem?_append_left (by omega), List.getElem?_eraseIdx]
    split
    · exact row_get n z j (by omega)
    · exact row_get n z (j + 1) (by omega)
  · rw [cell_of_row _ _ _ _ _ _ hg3, List.getElem?_toArray, List.getElem?_append_right (by omega), hl]
    simp

set_option maxHeartbeats 2000000 in
theorem law_any (b off n cap : Nat) (ix : Int) (z : Nat → Int) (w : World) (hn : 0 < n) (hmax : n ≤ 1024) (hx0 : 0 ≤ ix) (hx1 : ix ≤ 18446744073709551615) (hz : ∀ i, i < n → w.cell? ⟨b, off + i, none⟩ = some (Value.int .i64 (z i))) :
    Calls Yba.prog 3 #[.slice (some ⟨b, off, none⟩) n cap, .int .u64 ix] w fun e w' => e = .returned (.bool true) ∧ Below w.heap.size w w' := by
  obtain ⟨i0, hi0, hz0, hz1, hz2⟩ := info_parts infoE
  have hpos : (0 : Int) < (n : Int) := by omega
  have hzb : ((n : Int) == 0) = false := by simp; omega
  obtain ⟨k, hkx⟩ : ∃ k : Nat, ix % (n : Int) = (k : Int) := ⟨(ix % (n : Int)).toNat, by have := Int.emod_nonneg ix (show (n : Int) ≠ 0 by omega); omega⟩
  have hkn : k < n := by have := Int.emod_lt_of_pos ix hpos; omega
  have hki : (k : Int) < (n : Int) := by omega
  have hle : (n : Int) ≤ 1024 := by omega
  have hlq : (((n - 1 : Nat) : Int) != (n : Int) - 1) = false := by simp; omega
  have HZ : Hid (∀ i, i < n → w.cell? ⟨b, off + i, none⟩ = some (Value.int .i64 (z i))) := hz
  clear hz
  go_enter Yba.func3, Yba.ntmps3
  go_upto_region 6 with (first
    | (at_make; refine wpList_make_full _ rfl (.tmp 26) (.tmp 26) 22 rfl w.heap.size 3 i0 (.int .i64 0) 1 Yba.underlying22 hi0 hz0 hz1 .i64 .i64 _ _ n rfl rfl rfl rfl (by rw [hz2]; omega) (by unfold maxLen; omega) (by simp) ?_; intro w1 o1 g1; obtain ⟨cur, hcur, hcl⟩ := own_made (g := w.heap.size) o1 (by simp)))
  have HZ1 : Hid (∀ i, i < n → w1.cell? ⟨b, off + i, none⟩ = some (Value.int .i64 (z i))) := fun i hi => g1.cell (HZ.out i hi) (by simp)
  clear o1
  go_upto_region 7 with (first
    | (refine wpList_copy_splice rfl (.tmp 28) (.tmp 29) 22 22 rfl 3 Yba.underlying22 sizeE _ _ n n n cap rfl rfl w.heap.size 0 cur 3 hcur (row n z) (by simp [row_len]) (src_row HZ1.out rfl) (by simp [row_len, hcl]) (one_row n z) w.heap.size w1 (Below.refl _ _) (Nat.le_refl _) ?_; intro w2 hg2 hb2))
  obtain ⟨c2, b2, _⟩ := after_copy HZ.out hcl g1 hb2 hg2.out
  have HR : Hid (Calls Yba.prog 5 #[.slice (some ⟨w.heap.size, 0, none⟩) n n, .int .i64 k] w2 fun e w' => e = .returned (.slice (some ⟨w.heap.size, 0, none⟩) (n - 1) n) ∧ Below w.heap.size w2 w' ∧ w'.heap[w.heap.size]? = some (.cells ((row n z).eraseIdx k ++ [(.int .i64 0 : Value)]).toArray 3 (0, 0))) := rem_any w.heap.size n k (row n z) w2 (row_len n z) hkn hmax (one_row n z) c2
  clear hg2 hb2 hcur hcl HZ1 g1 c2 hi0 hz0 hz1 hz2
  go_wp2_with (first
    | (go_at_call 5; refine HR.out.mono ?_; rintro e w3 ⟨rfl, b3, hg3⟩))
  obtain ⟨b4, z4, c4, e4⟩ := after_rem hn hkn b2 HZ.out b3 hg3
  clear hg3 b3 b2 HR
  have hcn : ((n - 1 : Nat) : Int) = (n : Int) - 1 := by omega
  have Z4 : Hid (∀ i, i < n → w3.cell? ⟨b, off + i, none⟩ = some (Value.int .i64 (z i))) := z4
  have C4 : Hid (∀ j, j < n - 1 → w3.cell? ⟨w.heap.size, j, none⟩ = some (Value.int .i64 (z (if j < k then j else j + 1)))) := c4
  have E4 : Hid (w3.cell? ⟨w.heap.size, n - 1, none⟩ = some (.int .i64 0)) := e4
  clear z4 c4 e4
  go_loop [9] (fun i => ∃ j : Nat, j ≤ n - 1 ∧ i = .int .i64 j) (fun i => n - 1 - (intOf i).toNat)
  case atStart => exact ⟨0, by omega, rfl⟩
  case round =>
    obtain ⟨j, hj, rfl⟩ := hrel
    by_cases hjn : j < n - 1
    · have hj1 : (j : Int) < (n : Int) - 1 := by omega
      have hj2 : (j : Int) < (n : Int) := by omega
      have hj3 : (j : Int) + 1 < (n : Int) := by omega
      have q1 := Z4.out j (by omega)
      have q2 := Z4.out (j + 1) (by omega)
      have q3 := C4.out j hjn
      by_cases hjk : j < k
      · rw [if_pos hjk] at q3
        have hjk' : (j : Int) < (k : Int) := by omega
        go_wp2_with fail
        refine ⟨⟨j + 1, by omega, by go_num⟩, by simp [intOf]; omega⟩
      · rw [if_neg hjk] at q3
        have hjk' : (k : Int) ≤ (j : Int) := by omega
        go_wp2_with fail
        refine ⟨⟨j + 1, by omega, by go_num⟩, by simp [intOf]; omega⟩
    · obtain rfl : j = n - 1 := by omega
      have q := E4.out
      go_wp2_with fail
      go_ret
      exact ⟨rfl, b4⟩

theorem law_empty (a0 : Option Addr) (cap : Nat) (ix : Int) (w : World) :
    Calls Yba.prog 3 #[.slice a0 0 cap, .int .u64 ix] w fun e w' => e = .returned (.bool true) ∧ Below w.heap.size w w' := by
  go_enter Yba.func3, Yba.ntmps3
  go_wp2_with fail
  go_ret
  exact ⟨rfl, Below.refl _ _⟩
theorem law_long (a0 : Option Addr) (n cap : Nat) (ix : Int) (w : World) (h : 1024 < n) (hm : n ≤ 9223372036854775807) :
    Calls Yba.prog 3 #[.slice a0 n cap, .int .u64 ix] w fun e w' => e = .returned (.bool true) ∧ Below w.heap.size w w' := by
  have h1 : (1024 : Int) < (n : Int) := by omega
  have hzb : ((n : Int) == 0) = false := by simp; omega
  go_enter Yba.func3, Yba.ntmps3
  go_wp2_with fail
  go_ret
  exact ⟨rfl, Below.refl _ _⟩
end Go.Proofs.Ybulkcxyu.Ints
