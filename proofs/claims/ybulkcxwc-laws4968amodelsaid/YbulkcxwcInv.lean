import Derived.Test.YbulkcxwcTurn
import Derived.Deep.MidRow
namespace Go.Proofs.Ybulkcxwc
open Go.RowKit

def cells (c : Ctx) : List Value := (List.range 21).map fun i => .int .i64 (c.a i)
theorem cells_length (c : Ctx) : (cells c).length = 21 := by simp [cells]
theorem cells_get (c : Ctx) (i : Nat) (h : i < 21) : (cells c)[i]? = some (.int .i64 (c.a i)) := by simp [cells, h]
theorem cells_size (c : Ctx) : (cells c).toArray.size = 21 := by simp [cells]
theorem cells_one (c : Ctx) : (cells c).toArray.all (·.oneCell') = true := all_oneCell_toArray (by intro v hv; simp only [cells, List.mem_map] at hv; obtain ⟨i, _, rfl⟩ := hv; rfl)

/-- The world while the law runs: the box of the angles, the table's block. -/
structure Inv (w : World) (c : Ctx) (D : Array Value) (wr : World) : Prop where
  below : Below w.heap.size w wr
  size : w.heap.size + 2 ≤ wr.heap.size
  box : wr.heap[w.heap.size]? = some (.cells (cells c).toArray 22 (0, 0))
  tb : wr.heap[w.heap.size + 1]? = some (.cells D 31 (0, 0))
  dsz : D.size = 375
  ang : ∀ i, i < 21 → D[331 + i]? = some (.int .i64 (c.a i))

section
variable {w : World} {c : Ctx} {D : Array Value} {wr : World}
theorem Inv.cellD (h : Inv w c D wr) (i : Nat) : wr.cell? ⟨w.heap.size + 1, i, none⟩ = D[i]? := cell_of_row wr _ i D 31 (0, 0) h.tb
theorem Inv.froD (h : Inv w c D wr) (i : Nat) : wr.frozen? ⟨w.heap.size + 1, i, none⟩ = false := frozen_of_row wr _ i D 31 h.tb
theorem Inv.cellA (h : Inv w c D wr) (i : Nat) (hi : i < 21) : wr.cell? ⟨w.heap.size, i, none⟩ = some (.int .i64 (c.a i)) := by
  rw [cell_of_row wr _ i _ 22 (0, 0) h.box]; simpa using cells_get c i hi
theorem Inv.alloc (h : Inv w c D wr) (o : Obj) : Inv w c D (wr.alloc o) :=
  ⟨h.below.alloc (by have := h.size; omega) o, by have := h.size; simp; omega, by rw [Below.heap_alloc _ _ _ (by have := h.size; omega)]; exact h.box, by rw [Below.heap_alloc _ _ _ (by have := h.size; omega)]; exact h.tb, h.dsz, h.ang⟩
theorem Inv.grown {w1 : World} {row : Option Nat} (h : Inv w c D wr) (hg : wr.grownBy w1 row) (hr : ∀ k, row = some k → w.heap.size + 2 ≤ k) : Inv w c D w1 := by
  have hs := h.size
  have hs1 := hg.size
  have hne : ∀ k, k < w.heap.size + 2 → some k ≠ row := fun k hk e => by have := hr k e.symm; omega
  exact ⟨h.below.grown hg (by omega) (fun k hk => by have := hr k hk; omega), by omega, by rw [hg.block _ (by omega) (hne _ (by omega))]; exact h.box, by rw [hg.block _ (by omega) (hne _ (by omega))]; exact h.tb, h.dsz, h.ang⟩
theorem Inv.set (h : Inv w c D wr) (i : Nat) (v : Value) (hi : i < 331) : Inv w c (D.setIfInBounds i v) (wr.setCell ⟨w.heap.size + 1, i, none⟩ v) := by
  refine ⟨h.below.setCell (by simp) v, by simpa [World.setCell] using h.size, ?_, heap_setCell_same _ _ _ _ _ _ h.tb, by simp [h.dsz], fun j hj => ?_⟩
  · rw [heap_setCell_other _ _ _ _ (by simp)]; exact h.box
  · rw [Array.getElem?_setIfInBounds_ne (by omega)]; exact h.ang j hj
theorem Inv.drewN (h : Inv w c D wr) (k : Nat) : Inv w c D (wr.drewN k) := by
  induction k with
  | zero => exact h
  | succ k ih => exact ⟨ih.below.drew, ih.size, ih.box, ih.tb, ih.dsz, ih.ang⟩
end

theorem setCells_block (b : Nat) : ∀ (vs : List Value) (o : Nat) (w : World) (D : Array Value) (t : TypeId), w.heap[b]? = some (.cells D t (0, 0)) → o + vs.length ≤ D.size →
    ∃ D', (w.setCells b o vs).heap[b]? = some (.cells D' t (0, 0)) ∧ D'.size = D.size ∧ (∀ j, j < o → D'[j]? = D[j]?) ∧ (∀ j, j < vs.length → D'[o + j]? = vs[j]?)
  | [], o, w, D, t, h, _ => ⟨D, h, rfl, fun _ _ => rfl, fun j hj => by simp at hj⟩
  | v :: r, o, w, D, t, h, hl => by
    simp only [List.length_cons] at hl
    rw [World.setCells]
    obtain ⟨D', h1, h2, h3, h4⟩ := setCells_block b r (o + 1) (w.setCell ⟨b, o, none⟩ v) (D.setIfInBounds o v) t (heap_setCell_same _ _ _ _ _ _ h) (by simp; omega)
    refine ⟨D', h1, by simpa using h2, fun j hj => ?_, fun j hj => ?_⟩
    · rw [h3 j (by omega), Array.getElem?_setIfInBounds_ne (by omega)]
    · cases j with
      | zero => rw [Nat.add_zero, h3 o (by omega), Array.getElem?_setIfInBounds_self_of_lt (by omega)]; rfl
      | succ j => have := h4 j (by simpa using hj); rw [show o + (j + 1) = o + 1 + j by omega, this]; rfl

theorem below_setCells {B : Nat} {a : World} (b : Nat) (hb : B ≤ b) : ∀ (vs : List Value) (o : Nat) (w : World), Below B a w → Below B a (w.setCells b o vs)
  | [], _, _, h => h
  | v :: r, o, w, h => by rw [World.setCells]; exact below_setCells b hb r (o + 1) _ (h.setCell hb v)
theorem size_setCells' (b : Nat) : ∀ (vs : List Value) (o : Nat) (w : World), (w.setCells b o vs).heap.size = w.heap.size
  | [], _, _ => rfl
  | v :: r, o, w => by rw [World.setCells, size_setCells' b r]; simp [World.setCell]
theorem heap_setCells_ne (b k : Nat) (hk : k ≠ b) : ∀ (vs : List Value) (o : Nat) (w : World), (w.setCells b o vs).heap[k]? = w.heap[k]?
  | [], _, _ => rfl
  | v :: r, o, w => by rw [World.setCells, heap_setCells_ne b k hk r, heap_setCell_other _ _ _ _ hk]

theorem inv_start (w : World) (c : Ctx) (Z : Array Value) (hZ : Z.size = 375) (hZ0 : Z[0]? = some (.slice none 0 0)) :
    ∃ D, Inv w c D (((w.alloc (.cells (cells c).toArray 22)).alloc (.cells Z 31)).setCells (w.heap.size + 1) 331 (cells c)) ∧ D[0]? = some (.slice none 0 0) := by
  obtain ⟨D, h1, h2, h3, h4⟩ := setCells_block (w.heap.size + 1) (cells c) 331 ((w.alloc (.cells (cells c).toArray 22)).alloc (.cells Z 31)) Z 31 (heap_alloc2_new _ _ _) (by rw [cells_length]; omega)
  refine ⟨D, ⟨below_setCells _ (by omega) _ _ _ (((Below.refl _ _).alloc (Nat.le_refl _) _).alloc (by simp) _), by rw [size_setCells']; simp, ?_, h1, by omega, fun i hi => ?_⟩, by rw [h3 0 (by omega)]; exact hZ0⟩
  · rw [heap_setCells_ne _ _ (by omega)]; exact heap_alloc2_old _ _ _
  · rw [h4 i (by rw [cells_length]; exact hi)]; exact cells_get c i hi

/-- The first m shifts, as cells. -/
def shv (m : Nat) : List Value := (shl.take m).map fun (s : Nat) => Value.int .i64 (s : Int)
theorem shl_len : shl.length = 22 := rfl
theorem shv_snoc (m s : Nat) (h : m < 22) (hs : sh m = s) : shv m ++ [.int .i64 (s : Int)] = shv (m + 1) := by
  subst hs
  unfold shv sh
  have e : shl.getD m 0 = shl[m]'(show m < shl.length from h) := by simp [List.getD, List.getElem?_eq_getElem (show m < shl.length from h)]
  rw [e, List.take_succ_eq_append_getElem (show m < shl.length from h), List.map_append]; rfl
theorem shv_len (m : Nat) (h : m ≤ 22) : (shv m).length = m := by simp [shv, shl_len]; omega
theorem shv_get (m : Nat) (i : Nat) (h : i < m) (hm : m ≤ 22) : (shv m)[i]? = some (.int .i64 (sh i)) := by
  unfold shv sh
  have hi : i < shl.length := by rw [shl_len]; omega
  rw [List.getElem?_map, List.getElem?_take_of_lt h, List.getElem?_eq_getElem hi]
  simp [List.getD, List.getElem?_eq_getElem hi]
theorem sh_cnt (j : Nat) (h : j < 20) : sh (cnt j) = j + 1 := by
  have : ∀ j, j < 20 → sh (cnt j) = j + 1 := by decide
  exact this j h
theorem cnt_succ (j : Nat) (h : j < 20) (h4 : j ≠ 3) (h13 : j ≠ 12) : cnt (j + 1) = cnt j + 1 := by
  unfold cnt; (repeat' split) <;> omega
theorem cnt_le (j : Nat) (h : j ≤ 20) : cnt j ≤ 22 := by unfold cnt; (repeat' split) <;> omega
theorem cnt_lt (j : Nat) (h : j < 20) : cnt j < 22 := by unfold cnt; (repeat' split) <;> omega
theorem ownBlock_le {wr : World} {N : Nat} {v : Value} {n : Nat} {xs : List Value} (h : wr.ownsRow N 3 1 v n xs) : ∀ k, v.ownBlock = some k → N ≤ k := fun k hk => (h.lt k hk).1
end Go.Proofs.Ybulkcxwc
