import Derived.Test.YbulkcxwqPlain
import Derived.Deep.Cut
namespace Go.Proofs.Ybulkcxwq
open Go.RowKit

def u8s (zs : List Int) : List Value := zs.map (Value.int .u8)
theorem size5 : (Yba.prog.info? 5).map (·.size) = some 1 := by kernel_rfl
theorem alen34 : Yba.prog.arrayLen 34 = 8 := by simp [Program.arrayLen, Yba.underlying34]
theorem slice34 (b m : Nat) (hm : m ≤ 8)  : ∃ o c, (∀ W : World, (Instr.sliceAt 34 (.pointer (some ⟨b, 0, none⟩)) (some (.int .i64 (m : Int))) none none).run Yba.prog W = .ok (.slice (some ⟨b, o, none⟩) (8 - m) c) W) ∧ (m < 8 → o = m) := by
  have e : Yba.prog.elem 34 = 5 := by simp [Program.elem, Yba.underlying34]
  by_cases h8 : m = 8
  · subst h8
    refine ⟨0, 0, fun W => ?_, by omega⟩
    rw [run_sliceAt_array_l W 34 ⟨b, 0, none⟩ (by simp [Program.arrayLen, Program.elem, Yba.underlying34]) .i64 ((8 : Nat) : Int) (by omega) (by rw [alen34]; omega), e, alen34, Yba.sizeOf5]
    simp [slicedAt]
  have hne : ¬ (8 = m) := by omega
  refine ⟨m, 8 - m, fun W => ?_, fun _ => rfl⟩
  rw [run_sliceAt_array_l W 34 ⟨b, 0, none⟩ (by simp [Program.arrayLen, Program.elem, Yba.underlying34]) .i64 (m : Int) (by omega) (by rw [alen34]; omega), e, alen34, Yba.sizeOf5]
  simp [slicedAt, Addr.add, hne]
  omega

theorem slice34' (b k : Nat) (hk : k ≤ 8)  : ∃ o c, (∀ W : World, (Instr.sliceAt 34 (.pointer (some ⟨b, 0, none⟩)) (some (.int .i64 (8 - (k : Int)))) none none).run Yba.prog W = .ok (.slice (some ⟨b, o, none⟩) k c) W) ∧ (0 < k → o = 8 - k) := by
  obtain ⟨o, c, h1, h2⟩ := slice34 b (8 - k) (by omega)
  rw [show ((8 - k : Nat) : Int) = 8 - (k : Int) by omega, show 8 - (8 - k) = k by omega] at h1
  exact ⟨o, c, h1, fun h => h2 (by omega)⟩

/-- The last eight (or fewer) of the first k. -/
def lastL (zs : List Int) (k : Nat) : List Int := (zs.take k).drop (k - 8)
theorem lastL_len (zs : List Int) (k : Nat) (h : k ≤ zs.length) : (lastL zs k).length = min k 8 := by simp [lastL]; omega
theorem lastL_get (zs : List Int) (k j : Nat) (h : k ≤ zs.length) (hj : j < min k 8) : (lastL zs k)[j]? = some (zs.getD (k - 8 + j) 0) := by
  have h1 : k - 8 + j < k := by omega
  simp [lastL, List.getElem?_drop, h1, List.getElem?_eq_getElem (show k - 8 + j < zs.length by omega)]
def zero8 : List Value := [.int .u8 0, .int .u8 0, .int .u8 0, .int .u8 0, .int .u8 0, .int .u8 0, .int .u8 0, .int .u8 0]
theorem splice8 (L : List Int) (h : L.length ≤ 8) : splice zero8 (8 - L.length) (u8s L) = u8s (List.replicate (8 - L.length) 0 ++ L) := by
  have : zero8 = u8s (List.replicate 8 0) := rfl
  rw [this]
  simp only [splice, u8s, List.map_append, List.map_replicate, List.length_map]
  rw [List.take_replicate, List.drop_replicate, show 8 - (8 - L.length + L.length) = 0 by omega, show min (8 - L.length) 8 = 8 - L.length by omega]
  simp

theorem src_ok (gb k g o : Nat) (zs : List Int) (w : World) (hz : k ≤ zs.length) (hc : ∀ i, i < k → w.cell? ⟨gb, i, none⟩ = some (.int .u8 (zs.getD i 0))) (ho : 0 < k → o = 8 - min k 8) :
    0 < (u8s (lastL zs k)).length → (some ⟨g, o, none⟩ : Option Addr) = some ⟨g, 8 - min k 8, none⟩ ∧ ∃ ad, (some ⟨gb, k - 8, none⟩ : Option Addr) = some ad ∧ ∀ j v, (u8s (lastL zs k))[j]? = some v → w.cell? (ad.add j) = some v := fun hp => by
  rw [show (u8s (lastL zs k)).length = min k 8 by simp [u8s, lastL_len zs k hz]] at hp
  refine ⟨by rw [ho (by omega)], _, rfl, fun j v hv => ?_⟩
  have hj : j < min k 8 := by have := (List.getElem?_eq_some_iff.1 hv).1; simpa [u8s, lastL_len zs k hz] using this
  rw [u8s, List.getElem?_map, lastL_get zs k j hz hj] at hv
  cases hv
  rw [show (⟨gb, k - 8, none⟩ : Addr).add j = ⟨gb, k - 8 + j, none⟩ from by unfold Addr.add; split <;> simp_all, hc _ (by omega)]

theorem fin8 (k g : Nat) (zs : List Int) (w : World) (hz : k ≤ zs.length) (hu : ∀ z ∈ zs, 0 ≤ z ∧ z ≤ 255) (hg : w.heap[g]? = some (.cells (splice zero8 (8 - min k 8) (u8s (lastL zs k))).toArray 34 (0, 0))) :
    Calls Yba.prog 9 #[.agg #[], .slice (some ⟨g, 0, none⟩) 8 8] w fun e w' => e = .returned (.int .u64 (fold64 (zs.take k))) ∧ Below w.heap.size w w' := by
  have hl := lastL_len zs k hz
  rw [show 8 - min k 8 = 8 - (lastL zs k).length by rw [hl], splice8 _ (by omega)] at hg
  have hL : (List.replicate (8 - (lastL zs k).length) 0 ++ lastL zs k).length = 8 := by simp; omega
  have hm : ∀ z ∈ List.replicate (8 - (lastL zs k).length) 0 ++ lastL zs k, 0 ≤ z ∧ z ≤ 255 := fun z hz' => by
    rcases List.mem_append.1 hz' with h1 | h1
    · have := List.eq_of_mem_replicate h1; omega
    · exact hu z (List.mem_of_mem_take (List.mem_of_mem_drop h1))
  have hv := last8 (zs.take k) (fun z hz' => hu z (List.mem_of_mem_take hz'))
  rw [show (zs.take k).length = k by simp; omega, show (zs.take k).drop (k - 8) = lastL zs k from rfl, show 8 - k = 8 - (lastL zs k).length by omega] at hv
  rw [hv]
  generalize List.replicate (8 - (lastL zs k).length) 0 ++ lastL zs k = X at *
  have hc := Yba.binary_BE_Uint64_z ⟨g, 0, none⟩ 8 8 X w (Nat.le_refl _) (by omega) (fun i hi => by
    rw [show (⟨g, 0, none⟩ : Addr).add i = ⟨g, i, none⟩ from by unfold Addr.add; split <;> simp_all, cell_of_row _ _ _ _ _ _ hg]
    simp [u8s, List.getElem?_eq_getElem hi]) (fun z hz' => by have := hm z hz'; simp only [Lit.wf, Bool.and_eq_true, decide_eq_true_eq]; exact ⟨this.1, this.2⟩)
  rw [List.take_of_length_le (by omega)] at hc
  exact hc

theorem fin8d (k g : Nat) (zs : List Int) (w : World) (hz : k ≤ zs.length) (hu : ∀ z ∈ zs, 0 ≤ z ∧ z ≤ 255) (hg : w.heap[g]? = some (.cells (splice zero8 (8 - min k 8) (u8s (lastL zs k))).toArray 34 (0, 0))) :
    Calls Yba.prog 9 #[.agg #[], .slice (some ⟨g, 0, none⟩) 8 8] w.drew fun e w' => e = .returned (.int .u64 (fold64 (zs.take k))) ∧ Below w.heap.size w w' :=
  (fin8 k g zs w.drew hz hu hg).mono fun _ _ ⟨h1, h2⟩ => ⟨h1, ((Below.refl _ _).drew).trans h2⟩

set_option maxHeartbeats 1000000 in
theorem model_any (gb k cap : Nat) (zs : List Int) (w : World) (hk : k ≤ 1024) (hcap : k ≤ cap) (_hc2 : cap ≤ 1024) (hz : k ≤ zs.length) (hu : ∀ z ∈ zs, 0 ≤ z ∧ z ≤ 255)
    (hc : ∀ i, i < k → w.cell? ⟨gb, i, none⟩ = some (.int .u8 (zs.getD i 0))) :
    Calls Yba.prog 6 #[.slice (some ⟨gb, 0, none⟩) k cap] w fun e w' => e = .returned (.int .u64 (fold64 (zs.take k))) ∧ Below w.heap.size w w' := by
  have hcc : Hid (∀ i, i < k → (w.alloc (.cells zero8.toArray 34)).cell? ⟨gb, i, none⟩ = some (.int .u8 (zs.getD i 0))) := fun i hi => by
    rw [World.cell?_alloc_lt _ _ _ (World.block_lt_of_cell? w _ (hc i hi))]; exact hc i hi
  have hnew : Hid ((w.alloc (.cells zero8.toArray 34)).heap[w.heap.size]? = some (.cells zero8.toArray 34 (0, 0))) := heap_alloc_new w _
  clear hc
  by_cases h8 : k ≤ 8
  · obtain ⟨o, c, hsl, ho⟩ := slice34' w.heap.size k h8
    have hsrc := src_ok gb k w.heap.size o zs (w.alloc (.cells zero8.toArray 34)) hz hcc.out (fun h => by rw [ho h]; omega)
    rw [show k - 8 = 0 by omega] at hsrc
    have h8' : (k : Int) ≤ 8 := by omega
    go_enter Yba.func6, Yba.ntmps6
    go_upto_region 5 with (fail)
    go_upto_region 6 with (refine wpList_copy_splice rfl (.tmp 17) (.tmp 18) 22 22 rfl 5 Yba.underlying22 size5 _ _ k c k cap rfl rfl w.heap.size (8 - min k 8) zero8 34 hnew.out (u8s (lastL zs k)) (by simp [u8s, lastL_len zs k hz]; omega) (hsrc) (by simp [u8s, lastL_len zs k hz, zero8]; omega) (by simp [u8s, Value.oneCell']) w.heap.size w ((Below.refl _ _).alloc (Nat.le_refl _) _) (Nat.le_refl _) ?_; intro w2 hg2 hb2)
    have HC : Hid (Calls Yba.prog 9 #[.agg #[], .slice (some ⟨w.heap.size, 0, none⟩) 8 8] w2.drew fun e w' => e = .returned (.int .u64 (fold64 (zs.take k))) ∧ Below w2.heap.size w2 w') := fin8d k w.heap.size zs w2 hz hu hg2.out
    clear hg2 hnew hcc hsrc hsl
    go_region_with (first | (go_at_call 9; refine (HC.out).mono ?_; rintro e w3 ⟨rfl, hb3⟩))
    all_goals (go_wp2_with fail; go_ret; exact ⟨rfl, hb2.trans (hb3.mono hb2.size)⟩)
  · obtain ⟨o, c, hsl, ho⟩ := slice34' w.heap.size 8 (by omega)
    rw [show (8 : Int) - ((8 : Nat) : Int) = 0 from rfl] at hsl
    obtain rfl : o = 0 := ho (by omega)
    have hsrc := src_ok gb k w.heap.size 0 zs (w.alloc (.cells zero8.toArray 34)) hz hcc.out (fun _ => by omega)
    clear ho
    have h8' : (8 : Int) < (k : Int) := by omega
    have hne : ¬ (cap = k - 8) := by omega
    go_enter Yba.func6, Yba.ntmps6
    go_upto_region 5 with (fail)
    rw [show k - (k - 8) = 8 by omega]
    go_upto_region 6 with (refine wpList_copy_splice rfl (.tmp 17) (.tmp 18) 22 22 rfl 5 Yba.underlying22 size5 _ _ 8 c 8 (cap - (k - 8)) rfl rfl w.heap.size (8 - min k 8) zero8 34 hnew.out (u8s (lastL zs k)) (by simp [u8s, lastL_len zs k hz]; omega) (hsrc) (by simp [u8s, lastL_len zs k hz, zero8]; omega) (by simp [u8s, Value.oneCell']) w.heap.size w ((Below.refl _ _).alloc (Nat.le_refl _) _) (Nat.le_refl _) ?_; intro w2 hg2 hb2)
    have HC : Hid (Calls Yba.prog 9 #[.agg #[], .slice (some ⟨w.heap.size, 0, none⟩) 8 8] w2.drew fun e w' => e = .returned (.int .u64 (fold64 (zs.take k))) ∧ Below w2.heap.size w2 w') := fin8d k w.heap.size zs w2 hz hu hg2.out
    clear hg2 hnew hcc hsrc hsl
    go_region_with (first | (go_at_call 9; refine (HC.out).mono ?_; rintro e w3 ⟨rfl, hb3⟩))
    all_goals (go_wp2_with fail; go_ret; exact ⟨rfl, hb2.trans (hb3.mono hb2.size)⟩)
end Go.Proofs.Ybulkcxwq
