import Derived.Test.YbulkcxyuRows
import Derived.WalkKit
import Derived.WalkSpells
import Derived.Deep.QuietTactic
import Derived.BigQuiet
import Derived.Deep.RegionWith
import Derived.Deep.RegionLaw
import Derived.Laws.CopyOwn
import Derived.OpenShut
import Derived.Deep.DeepCutAuto
namespace Go.Proofs.Ybulkcxyu.Ints
open Go.RowKit

theorem sizeE : (Yba.prog.info? 3).map (·.size) = some 1 := by kernel_rfl

theorem splice_rem (vs : List Value) (k : Nat) (z : Value) (hk : k < vs.length) : (splice vs k (vs.drop (k + 1))).set (vs.length - 1) z = vs.eraseIdx k ++ [z] := by
  have e : splice vs k (vs.drop (k + 1)) = vs.eraseIdx k ++ vs.drop (vs.length - 1) := by
    unfold splice
    rw [List.eraseIdx_eq_take_drop_succ, List.append_assoc]
    congr 3
    simp; omega
  have hl : (vs.eraseIdx k).length = vs.length - 1 := by rw [List.length_eraseIdx]; simp [hk]
  have hd : (vs.drop (vs.length - 1)).length = 1 := by simp; omega
  obtain ⟨y, hy⟩ : ∃ y, vs.drop (vs.length - 1) = [y] := List.length_eq_one_iff.1 hd
  rw [e, List.set_append_right _ _ (by omega), hl, Nat.sub_self, hy]
  rfl
theorem src_rem {w : World} {g k : Nat} {vs : List Value} (hg : w.heap[g]? = some (.cells vs.toArray 3 (0, 0))) (o : Nat) (ho : k + 1 < vs.length → o = k + 1) :
    0 < (vs.drop (k + 1)).length → (some ⟨g, k, none⟩ : Option Addr) = some ⟨g, k, none⟩ ∧ ∃ ad, (some ⟨g, o, none⟩ : Option Addr) = some ad ∧ ∀ j v, (vs.drop (k + 1))[j]? = some v → w.cell? (ad.add j) = some v := fun hp => by
  refine ⟨rfl, _, rfl, fun j v hv => ?_⟩
  rw [ho (by simp at hp; omega), show (⟨g, k + 1, none⟩ : Addr).add j = ⟨g, k + 1 + j, none⟩ from by unfold Addr.add; split <;> simp_all, cell_of_row _ _ _ _ _ _ hg]
  simpa using hv

set_option maxHeartbeats 2000000 in
theorem rem_mid (g n k : Nat) (vs : List Value) (w : World) (hn : vs.length = n) (_hk : k < n) (hmax : n ≤ 1024) (hone : ∀ v ∈ vs, v.oneCell' = true) (hg : w.heap[g]? = some (.cells vs.toArray 3 (0, 0))) (h1 : k + 1 < n) :
    Calls Yba.prog 5 #[.slice (some ⟨g, 0, none⟩) n n, .int .i64 k] w fun e w' => e = .returned (.slice (some ⟨g, 0, none⟩) (n - 1) n) ∧ Below g w w' ∧ w'.heap[g]? = some (.cells (vs.eraseIdx k ++ [(.int .i64 0 : Value)]).toArray 3 (0, 0)) := by
  obtain ⟨cs, hcs⟩ : ∃ cs, cs = vs.drop (k + 1) := ⟨_, rfl⟩
  have HCS : Hid (cs = vs.drop (k + 1)) := hcs
  have hcl : cs.length = n - (k + 1) := by rw [hcs]; simp; omega
  have hc1 : ∀ v ∈ cs, v.oneCell' = true := by rw [hcs]; exact fun v hv => hone v (List.mem_of_mem_drop hv)
  have hkn : k ≤ n := by omega
  have hne : ¬ n = k := by omega
  have hw1 : IntKind.i64.wrap ((k : Int) + 1) = (k : Int) + 1 := by simp [IntKind.wrap, IntKind.bits, IntKind.signed]; omega
  have hk1 : k + 1 ≤ n := by omega
  have hne1 : ¬ n = k + 1 := by omega
  have hi0 : (0 : Int) ≤ (k : Int) + 1 := by omega
  have hi1 : (k : Int) + 1 ≤ (n : Int) := by omega
  go_enter Yba.func5, Yba.ntmps5
  go_wp2_with fail
  go_region_law (refine step_copy_splice rfl (.tmp 8) (.tmp 12) 22 22 rfl 3 Yba.underlying22 sizeE _ _ (n - k) (n - k) (n - (k + 1)) (n - (k + 1)) rfl rfl g k vs 3 hg cs (by rw [hcl]; exact (Nat.min_eq_left (by omega)).symm) (by rw [HCS.out]; exact src_rem hg (k + 1) (fun _ => rfl)) (by omega) hc1 g w (by first | exact (Below.refl _ _).drew | exact ((Below.refl _ _).drew).drew) (Nat.le_refl _) ?_; intro w2 hg2 hb2)
  have hX : (splice vs k cs).length = n := by rw [length_splice _ _ _ (by omega), hn]
  have hlast : w2.cell? ⟨g, n - 1, none⟩ = some ((splice vs k cs)[n - 1]'(by omega)) := by rw [cell_of_row _ _ _ _ _ _ hg2.out]; simp [List.getElem?_eq_getElem (show n - 1 < (splice vs k cs).length by omega)]
  have hfz := frozen_of_row w2 g (n - 1) _ _ hg2.out
  have hni : (0 : Int) < (n : Int) := by omega
  generalize (splice vs k cs)[n - 1]'(by omega) = y at hlast
  go_wp2_with fail
  go_ret
  refine ⟨rfl, hb2.setCell (Nat.le_refl _) _, ?_⟩
  rw [heap_setCell_same _ _ _ _ _ _ hg2.out, HCS.out, ← splice_rem vs k _ (by omega), hn]
  simp

set_option maxHeartbeats 2000000 in
theorem rem_end (g n k : Nat) (vs : List Value) (w : World) (hn : vs.length = n) (hk : k < n) (hmax : n ≤ 1024) (hone : ∀ v ∈ vs, v.oneCell' = true) (hg : w.heap[g]? = some (.cells vs.toArray 3 (0, 0))) (h1 : ¬ k + 1 < n) :
    Calls Yba.prog 5 #[.slice (some ⟨g, 0, none⟩) n n, .int .i64 k] w fun e w' => e = .returned (.slice (some ⟨g, 0, none⟩) (n - 1) n) ∧ Below g w w' ∧ w'.heap[g]? = some (.cells (vs.eraseIdx k ++ [(.int .i64 0 : Value)]).toArray 3 (0, 0)) := by
  obtain ⟨cs, hcs⟩ : ∃ cs, cs = vs.drop (k + 1) := ⟨_, rfl⟩
  have HCS : Hid (cs = vs.drop (k + 1)) := hcs
  have hcl : cs.length = n - (k + 1) := by rw [hcs]; simp; omega
  have hc1 : ∀ v ∈ cs, v.oneCell' = true := by rw [hcs]; exact fun v hv => hone v (List.mem_of_mem_drop hv)
  have hkn : k ≤ n := by omega
  have hne : ¬ n = k := by omega
  have hw1 : IntKind.i64.wrap ((k : Int) + 1) = (k : Int) + 1 := by simp [IntKind.wrap, IntKind.bits, IntKind.signed]; omega
  obtain rfl : n = k + 1 := by omega
  have hi0 : (k : Int) ≤ (k : Int) + 1 := by omega
  have hi1 : (0 : Int) ≤ (k : Int) + 1 := by omega
  have hi2 : (0 : Int) < (k : Int) + 1 := by omega
  go_enter Yba.func5, Yba.ntmps5
  go_wp2_with fail
  go_region_law (refine step_copy_splice rfl (.tmp 8) (.tmp 12) 22 22 rfl 3 Yba.underlying22 sizeE _ _ 1 1 0 0 rfl rfl g k vs 3 hg cs (by rw [hcl]; simp) (by rw [HCS.out]; exact src_rem hg 0 (by omega)) (by omega) hc1 g w (by first | exact (Below.refl _ _).drew | exact ((Below.refl _ _).drew).drew) (Nat.le_refl _) ?_; intro w2 hg2 hb2)
  have hX : (splice vs k cs).length = k + 1 := by rw [length_splice _ _ _ (by omega), hn]
  have hlast : w2.cell? ⟨g, k, none⟩ = some ((splice vs k cs)[k]'(by omega)) := by rw [cell_of_row _ _ _ _ _ _ hg2.out]; simp [List.getElem?_eq_getElem (show k < (splice vs k cs).length by omega)]
  have hfz := frozen_of_row w2 g k _ _ hg2.out
  generalize (splice vs k cs)[k]'(by omega) = y at hlast
  go_wp2_with fail
  go_ret
  refine ⟨rfl, hb2.setCell (Nat.le_refl _) _, ?_⟩
  rw [heap_setCell_same _ _ _ _ _ _ hg2.out, HCS.out, ← splice_rem vs k _ (by omega), hn]
  simp

theorem rem_any (g n k : Nat) (vs : List Value) (w : World) (hn : vs.length = n) (hk : k < n) (hmax : n ≤ 1024) (hone : ∀ v ∈ vs, v.oneCell' = true) (hg : w.heap[g]? = some (.cells vs.toArray 3 (0, 0))) :
    Calls Yba.prog 5 #[.slice (some ⟨g, 0, none⟩) n n, .int .i64 k] w fun e w' => e = .returned (.slice (some ⟨g, 0, none⟩) (n - 1) n) ∧ Below g w w' ∧ w'.heap[g]? = some (.cells (vs.eraseIdx k ++ [(.int .i64 0 : Value)]).toArray 3 (0, 0)) := by
  by_cases h1 : k + 1 < n
  · exact rem_mid g n k vs w hn hk hmax hone hg h1
  · exact rem_end g n k vs w hn hk hmax hone hg h1
end Go.Proofs.Ybulkcxyu.Ints
