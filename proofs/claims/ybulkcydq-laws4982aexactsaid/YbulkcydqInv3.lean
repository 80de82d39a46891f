import Derived.Test.YbulkcydqInv2
namespace Go.Proofs.Ybulkcydq
open Go.RowKit Go.Maps Go.Sort

section
variable {w wr : World} {gN cN gT cT : Nat} {D : DataW Value} {L : List Ent} {k : Nat}

theorem LInv.drewN (h : LInv w gN cN gT cT D L k wr) (q : Nat) : LInv w gN cN gT cT D L k (wr.drewN q) := by
  induction q with
  | zero => exact h
  | succ q ih => exact ⟨ih.below.drew, ih.names, ih.tss, ih.map, ih.rel, ih.len, ih.sz⟩

/-- One name and its timestamp are laid anew. -/
theorem LInv.setN (h : wr.ownsRow w.heap.size 9 1 (vS gN L.length cN) L.length (L.map nameC)) (j : Nat) (p : Ent) :
    (wr.setCell ⟨gN, j, none⟩ (nameC p)).ownsRow w.heap.size 9 1 (vS gN L.length cN) L.length ((L.set j p).map nameC) := by
  have := (h.stored j (nameC p)).1
  rwa [name_set] at this
theorem LInv.setTs {M : List Ent} (h : wr.ownsRow w.heap.size 31 2 (vS gT M.length cT) M.length (M.flatMap tsC)) (j : Nat) (p : Ent) (hj : j < M.length) :
    ((wr.setCell ⟨gT, j * 2, none⟩ (.int .i64 p.2.1)).setCell ⟨gT, j * 2 + 1, none⟩ (.int .u32 p.2.2)).ownsRow w.heap.size 31 2 (vS gT M.length cT) M.length ((M.set j p).flatMap tsC) := by
  have h1 := (h.stored (j * 2) (.int .i64 p.2.1)).1
  have h2 := (h1.stored (j * 2 + 1) (.int .u32 p.2.2)).1
  rwa [flat_set M j p hj] at h2

/-- The two are exchanged. -/
def swW (gN gT q : Nat) (L : List Ent) (o : Obj) (wr : World) : World :=
  ((((((wr.setCell ⟨gN, q, none⟩ (nameC (nth L (q - 1)))).setCell ⟨gN, q - 1, none⟩ (nameC (nth L q))).alloc o).setCell ⟨gT, q * 2, none⟩ (.int .i64 (nth L (q - 1)).2.1)).setCell ⟨gT, q * 2 + 1, none⟩ (.int .u32 (nth L (q - 1)).2.2)).setCell ⟨gT, (q - 1) * 2, none⟩ (.int .i64 (nth L q).2.1)).setCell ⟨gT, (q - 1) * 2 + 1, none⟩ (.int .u32 (nth L q).2.2)

theorem LInv.swapped (h : LInv w gN cN gT cT D L k wr) (q : Nat) (hq : q < L.length) (h0 : 0 < q) (o : Obj) : LInv w gN cN gT cT D (swap L q) k (swW gN gT q L o wr) := by
  have hTN : gN ≠ gT := kind_ne h.names h.tss (by decide)
  have hTM := kind_ne_map h.tss h.map
  have hNM := kind_ne_map h.names h.map
  have hBT := (h.tss.lt gT rfl).1
  have hBN := (h.names.lt gN rfl).1
  have n1 := LInv.setN h.names q (nth L (q - 1))
  have e1 : (L.set q (nth L (q - 1))).length = L.length := List.length_set
  have n2 := LInv.setN (L := L.set q (nth L (q - 1))) (cN := cN) (by rw [e1]; exact n1) (q - 1) (nth L q)
  have t0 : ((wr.setCell ⟨gN, q, none⟩ (nameC (nth L (q - 1)))).setCell ⟨gN, q - 1, none⟩ (nameC (nth L q))).ownsRow w.heap.size 31 2 (vS gT L.length cT) L.length (L.flatMap tsC) :=
    ownsRow_setCell_other (ownsRow_setCell_other h.tss (by simp [Value.ownBlock]; exact fun e => hTN e.symm) _) (by simp [Value.ownBlock]; exact fun e => hTN e.symm) _
  have t1 := LInv.setTs (t0.alloc o) q (nth L (q - 1)) hq
  have t2 := LInv.setTs (M := L.set q (nth L (q - 1))) (cT := cT) (by rw [e1]; exact t1) (q - 1) (nth L q) (by rw [e1]; omega)
  have ko : ∀ {W : World} (_ : W.ownsRow w.heap.size 9 1 (vS gN L.length cN) L.length ((swap L q).map nameC)) (i : Nat) (u : Value), (W.setCell ⟨gT, i, none⟩ u).ownsRow w.heap.size 9 1 (vS gN L.length cN) L.length ((swap L q).map nameC) := fun hh i u => ownsRow_setCell_other hh (by simp [Value.ownBlock]; exact hTN) u
  have sl := swap_len L q
  have hb0 := h.below
  have b1 : Below w.heap.size w ((wr.setCell ⟨gN, q, none⟩ (nameC (nth L (q - 1)))).setCell ⟨gN, q - 1, none⟩ (nameC (nth L q))) := (h.below.setCell hBN _).setCell hBN _
  have b2 : Below w.heap.size w (swW gN gT q L o wr) := ((((b1.alloc b1.size o).setCell hBT _).setCell hBT _).setCell hBT _).setCell hBT _
  refine ⟨b2, ?_, ?_, ?_, rel_perm h.rel (swap_perm L q hq h0), by rw [sl]; exact h.len, fun p hp => h.sz p ((swap_perm L q hq h0).mem_iff.2 hp)⟩
  · rw [sl]
    rw [e1] at n2
    exact ko (ko (ko (ko (n2.alloc o) _ _) _ _) _ _) _ _
  · rw [sl]
    rw [e1] at t2
    exact t2
  · have m1 := ((h.map.setCell (a := ⟨gN, q, none⟩) (fun e => hNM e.symm) (nameC (nth L (q - 1)))).setCell (a := ⟨gN, q - 1, none⟩) (fun e => hNM e.symm) (nameC (nth L q))).alloc o
    exact (((m1.setCell (a := ⟨gT, _, none⟩) (fun e => hTM e.symm) _).setCell (a := ⟨gT, _, none⟩) (fun e => hTM e.symm) _).setCell (a := ⟨gT, _, none⟩) (fun e => hTM e.symm) _).setCell (a := ⟨gT, _, none⟩) (fun e => hTM e.symm) _
end
end Go.Proofs.Ybulkcydq
