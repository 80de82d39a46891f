import Derived.Test.YbulkcxwqRows
import Derived.Test.YbulkcxwqShelf
import Derived.WalkKit
import Derived.WalkSpells
import Derived.Deep.QuietTactic
import Derived.BigQuiet
import Derived.Deep.RegionWith
import Derived.Laws.CopyOwn
import Derived.OpenShut
namespace Go.Proofs.Ybulkcxwq
open Go.RowKit

/-- What the reader holds behind a read of k of its len bytes. -/
def After (gf gb len k : Nat) (sh : Bool) (w w' : World) : Prop :=
  Below gf w w' ∧ ∃ off, (0 < len - k → off = k) ∧ w'.heap[gf]? = some (.cells #[.slice (some ⟨gb, off, none⟩) (len - k) (len - k), .bool sh] 25 (0, 0))

theorem belSet {B : Nat} {a w : World} (h : Below B a w) (i : Nat) (u : Value) : Below B a (w.setCell ⟨B, i, none⟩ u) := h.setCell (Nat.le_refl _) u

theorem take_any (gf gb len n : Nat) (sh : Bool) (w : World) (hlen : len ≤ 1024) (hn : n ≤ 255) (hf : w.heap[gf]? = some (.cells #[.slice (some ⟨gb, 0, none⟩) len len, .bool sh] 25 (0, 0))) :
    Calls Yba.prog 8 #[.pointer (some ⟨gf, 0, none⟩), .int .i64 n] w fun e w' => e = .returned (.slice (some ⟨gb, 0, none⟩) (min n len) (min n len)) ∧ After gf gb len (min n len) (sh || decide (len < n)) w w' := by
  have c0 : w.cell? ⟨gf, 0, none⟩ = some (.slice (some ⟨gb, 0, none⟩) len len) := by rw [cell_of_row _ _ _ _ _ _ hf]; rfl
  have c1 : w.cell? ⟨gf, 1, none⟩ = some (.bool sh) := by rw [cell_of_row _ _ _ _ _ _ hf]; rfl
  have z0 := frozen_of_row w gf 0 _ _ hf
  have z1 := frozen_of_row w gf 1 _ _ hf
  by_cases h : len < n
  · go_enter Yba.func8, Yba.ntmps8
    go_wp2_with fail
    go_ret
    rw [show min n len = len by omega]
    refine ⟨rfl, belSet (belSet (Below.refl _ _) _ _) _ _, 0, by omega, ?_⟩
    rw [heap_setCell_same _ _ _ _ _ _ (heap_setCell_same _ _ _ _ _ _ hf)]
    simp [h]
  · by_cases h2 : n = len
    · subst h2
      go_enter Yba.func8, Yba.ntmps8
      go_wp2_with fail
      go_ret
      rw [show min n n = n by omega]
      refine ⟨rfl, belSet (Below.refl _ _) _ _, 0, by omega, ?_⟩
      rw [heap_setCell_same _ _ _ _ _ _ hf]
      simp
    · go_enter Yba.func8, Yba.ntmps8
      go_wp2_with fail
      go_ret
      rw [show min n len = n by omega]
      refine ⟨rfl, belSet (Below.refl _ _) _ _, n, by omega, ?_⟩
      rw [heap_setCell_same _ _ _ _ _ _ hf]
      simp [h]

def fold64 (zs : List Int) : Nat := zs.foldl (fun v c => (v * 256 + c.toNat) % 18446744073709551616) 0
theorem fold64_succ (zs : List Int) (k : Nat) (h : k < zs.length) : fold64 (zs.take (k + 1)) = (fold64 (zs.take k) * 256 + (zs.getD k 0).toNat) % 18446744073709551616 := by
  rw [List.take_succ_eq_append_getElem h]
  simp only [fold64, List.foldl_append, List.foldl_cons, List.foldl_nil, List.getD_eq_getElem?_getD, List.getElem?_eq_getElem h, Option.getD_some]
theorem fold64_lt (zs : List Int) : fold64 zs < 18446744073709551616 := by
  unfold fold64
  cases h : zs.reverse with
  | nil => simp at h; subst h; simp
  | cons a t =>
    have : zs = t.reverse ++ [a] := by have := congrArg List.reverse h; simpa using this
    subst this
    simp only [List.foldl_append, List.foldl_cons, List.foldl_nil]
    exact Nat.mod_lt _ (by decide)
theorem step64 (v : Nat) (c : Int) (h0 : 0 ≤ c) (h1 : c ≤ 255) : bits .or .u64 (IntKind.u64.wrap ((v : Int) * 256)) c = (((v * 256 + c.toNat) % 18446744073709551616 : Nat) : Int) := by
  obtain ⟨c, rfl⟩ : ∃ n : Nat, c = n := ⟨c.toNat, by omega⟩
  have e1 : IntKind.u64.wrap ((v : Int) * 256) = ((v % 72057594037927936 * 256 : Nat) : Int) := by
    simp [IntKind.wrap, IntKind.bits, IntKind.signed]; omega
  have e2 := Nat.shiftLeft_add_eq_or_of_lt (b := c) (i := 8) (by omega) (v % 72057594037927936)
  rw [Nat.shiftLeft_eq] at e2
  rw [e1, u64_or_nat _ _ (by omega) (by omega), ← e2]
  simp; omega

theorem uint_any (gf gb len n : Nat) (sh : Bool) (zs : List Int) (w : World) (hlen : len ≤ 1024) (hn : n ≤ 255) (hb : gb < gf) (hz : zs.length = len) (hu : ∀ z ∈ zs, 0 ≤ z ∧ z ≤ 255)
    (hf : w.heap[gf]? = some (.cells #[.slice (some ⟨gb, 0, none⟩) len len, .bool sh] 25 (0, 0)))
    (hc : ∀ i, i < len → w.cell? ⟨gb, i, none⟩ = some (.int .u8 (zs.getD i 0))) :
    Calls Yba.prog 5 #[.pointer (some ⟨gf, 0, none⟩), .int .i64 n] w fun e w' => e = .returned (.int .u64 (fold64 (zs.take (min n len)))) ∧ After gf gb len (min n len) (sh || decide (len < n)) w w' := by
  have hk : min n len ≤ len := Nat.min_le_right _ _
  have HT : Hid (Calls Yba.prog 8 #[.pointer (some ⟨gf, 0, none⟩), .int .i64 n] w fun e w' => e = .returned (.slice (some ⟨gb, 0, none⟩) (min n len) (min n len)) ∧ After gf gb len (min n len) (sh || decide (len < n)) w w') := take_any gf gb len n sh w hlen hn hf
  generalize min n len = k at *
  clear hf
  go_enter Yba.func5, Yba.ntmps5
  go_wp2_with (go_at_call 8; refine HT.out.mono ?_; rintro e w1 ⟨rfl, hA⟩)
  have hcc : ∀ i, i < len → w1.cell? ⟨gb, i, none⟩ = some (.int .u8 (zs.getD i 0)) := fun i hi => by rw [hA.1.cell hb]; exact hc i hi
  go_loop [5, 12] (fun v i => ∃ j : Nat, j ≤ k ∧ v = .int .u64 (fold64 (zs.take j)) ∧ i = .int .i64 j) (fun _ i => k - (intOf i).toNat)
  case atStart => exact ⟨0, by omega, rfl, rfl⟩
  case round =>
    obtain ⟨j, hj, rfl, rfl⟩ := hrel
    by_cases hjk : j < k
    · have hcj := hcc j (by omega)
      have hi1 : (j : Int) < (k : Int) := by omega
      go_wp2_with fail
      refine ⟨⟨j + 1, by omega, ?_, by go_num⟩, by simp [intOf]; omega⟩
      have hm := hu (zs.getD j 0) (by simp [List.getD_eq_getElem?_getD, List.getElem?_eq_getElem (show j < zs.length by omega)])
      rw [List.getD_eq_getElem?_getD] at hm
      rw [show IntKind.u64.wrap (zs[j]?.getD 0) = zs[j]?.getD 0 by simp [IntKind.wrap, IntKind.bits, IntKind.signed]; omega, step64 _ _ hm.1 hm.2, fold64_succ zs j (by omega), List.getD_eq_getElem?_getD]
    · obtain rfl : j = k := by omega
      go_wp2_with fail
      go_ret
      exact ⟨rfl, hA⟩
end Go.Proofs.Ybulkcxwq
