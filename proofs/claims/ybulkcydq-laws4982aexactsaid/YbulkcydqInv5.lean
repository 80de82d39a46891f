import Derived.Test.YbulkcydqInv4
namespace Go.Proofs.Ybulkcydq
open Go.RowKit Go.Maps Go.Sort

theorem clause_get (L : List Ent) : ∀ j, j < L.length → (L.flatMap clause)[j * 3]? = some (.string ⟨(key L j).toArray⟩) ∧ (L.flatMap clause)[j * 3 + 1]? = some (.int .i64 (nth L j).2.1) ∧ (L.flatMap clause)[j * 3 + 2]? = some (.int .u32 (nth L j).2.2) := by
  induction L with
  | nil => intro j hj; simp at hj
  | cons a t ih =>
    intro j hj
    cases j with
    | zero => simp [clause, nth, key]
    | succ j =>
      have := ih j (by simpa using hj)
      rw [List.flatMap_cons, show (j + 1) * 3 = j * 3 + 3 by omega, show j * 3 + 3 + 1 = (j * 3 + 1) + 3 by omega, show j * 3 + 3 + 2 = (j * 3 + 2) + 3 by omega]
      simpa [clause, nth, key] using this
theorem tok_get (bms bn : Int) (L : List Ent) (j : Nat) (hj : j < L.length) : (tokC bms bn L)[(j + 1) * 3]? = some (.string ⟨(key L j).toArray⟩) ∧ (tokC bms bn L)[(j + 1) * 3 + 1]? = some (.int .i64 (nth L j).2.1) ∧ (tokC bms bn L)[(j + 1) * 3 + 2]? = some (.int .u32 (nth L j).2.2) := by
  have := clause_get L j hj
  unfold tokC
  rw [show (j + 1) * 3 = j * 3 + 3 by omega, show j * 3 + 3 + 1 = (j * 3 + 1) + 3 by omega, show j * 3 + 3 + 2 = (j * 3 + 2) + 3 by omega]
  simpa [clause, nth, key] using this

/-- The law's memory behind the token. -/
structure Fin (w : World) (gN cN gT cT : Nat) (D : DataW Value) (L : List Ent) (k : Nat) (bms bn : Int) (B pb g c : Nat) (wr : World) : Prop where
  inv : LInv w gN cN gT cT D L k wr
  tok : wr.ownsRow B 39 3 (vS g (1 + L.length) c) (1 + L.length) (tokC bms bn L)
  bd : wr.heap[pb]? = some (.cells #[.int .i64 bms, .int .u32 bn] 31 (0, 0))
  sorted : (keys L).Pairwise (fun x y => x ≤ y)

section
variable {w wr : World} {gN cN gT cT : Nat} {D : DataW Value} {L : List Ent} {k : Nat} {bms bn : Int} {B pb g c : Nat}
theorem Fin.drew (h : Fin w gN cN gT cT D L k bms bn B pb g c wr) : Fin w gN cN gT cT D L k bms bn B pb g c wr.drew := ⟨h.inv.drewN 1, h.tok, h.bd, h.sorted⟩
theorem Fin.drewN (h : Fin w gN cN gT cT D L k bms bn B pb g c wr) (q : Nat) : Fin w gN cN gT cT D L k bms bn B pb g c (wr.drewN q) := by
  induction q with
  | zero => exact h
  | succ q ih => exact ih.drew
theorem Fin.alloc (h : Fin w gN cN gT cT D L k bms bn B pb g c wr) (o : Obj) : Fin w gN cN gT cT D L k bms bn B pb g c (wr.alloc o) :=
  ⟨h.inv.alloc o, h.tok.alloc o, by rw [Go.Deep.blk_alloc_lt _ _ _ (Array.getElem?_eq_some_iff.1 h.bd).1]; exact h.bd, h.sorted⟩
theorem fin_start {wc w2 : World} (h : LInv w gN cN gT cT D L k wc) (hs : (keys L).Pairwise (fun x y => x ≤ y)) (B : Nat)
    (ht : w2.ownsRow B 39 3 (vS g (1 + L.length) c) (1 + L.length) (tokC bms bn L)) (hb : Below (wc.alloc (.cells #[.int .i64 bms, .int .u32 bn] 31)).heap.size (wc.alloc (.cells #[.int .i64 bms, .int .u32 bn] 31)) w2) :
    Fin w gN cN gT cT D L k bms bn B wc.heap.size g c w2 :=
  ⟨(h.alloc _).kept hb, ht, by rw [hb.block _ (by rw [Go.Deep.nblk_alloc]; omega)]; exact heap_alloc_new wc _, hs⟩
theorem Fin.size (h : Fin w gN cN gT cT D L k bms bn B pb g c wr) : Maps.size D = L.length := (sorted_keys h.inv.map law9 Yba.underlying9 h.inv.rel h.sorted (List.Perm.refl _)).2.2
theorem Fin.tok0 (h : Fin w gN cN gT cT D L k bms bn B pb g c wr) : wr.cell? ⟨g, 0, none⟩ = some (.string ⟨#[42]⟩) ∧ wr.cell? ⟨g, 1, none⟩ = some (.int .i64 bms) ∧ wr.cell? ⟨g, 2, none⟩ = some (.int .u32 bn) := by
  rw [h.tok.cellAt 0 (by omega), h.tok.cellAt 1 (by omega), h.tok.cellAt 2 (by omega)]
  exact ⟨rfl, rfl, rfl⟩
theorem Fin.bd0 (h : Fin w gN cN gT cT D L k bms bn B pb g c wr) : wr.cell? ⟨pb, 0, none⟩ = some (.int .i64 bms) ∧ wr.cell? ⟨pb, 1, none⟩ = some (.int .u32 bn) := by
  rw [cell_of_row _ _ _ _ _ _ h.bd, cell_of_row _ _ _ _ _ _ h.bd]
  exact ⟨rfl, rfl⟩
theorem Fin.tokAt (h : Fin w gN cN gT cT D L k bms bn B pb g c wr) (j : Nat) (hj : j < L.length) : wr.cell? ⟨g, (j + 1) * 3, none⟩ = some (.string ⟨(key L j).toArray⟩) ∧ wr.cell? ⟨g, (j + 1) * 3 + 1, none⟩ = some (.int .i64 (nth L j).2.1) ∧ wr.cell? ⟨g, (j + 1) * 3 + 2, none⟩ = some (.int .u32 (nth L j).2.2) := by
  rw [h.tok.cellAt ((j + 1) * 3) (by omega), h.tok.cellAt ((j + 1) * 3 + 1) (by omega), h.tok.cellAt ((j + 1) * 3 + 2) (by omega)]
  exact tok_get bms bn L j hj
theorem Fin.nameAt (h : Fin w gN cN gT cT D L k bms bn B pb g c wr) (j : Nat) (hj : j < L.length) : wr.cell? ⟨gN, j, none⟩ = some (.string ⟨(key L j).toArray⟩) := key_cell h.inv.names j hj
theorem Fin.tsAt (h : Fin w gN cN gT cT D L k bms bn B pb g c wr) (j : Nat) (hj : j < L.length) : wr.cell? ⟨gT, j * 2, none⟩ = some (.int .i64 (nth L j).2.1) ∧ wr.cell? ⟨gT, j * 2 + 1, none⟩ = some (.int .u32 (nth L j).2.2) := ts_cell h.inv.tss j hj
theorem Fin.look (h : Fin w gN cN gT cT D L k bms bn B pb g c wr) (j : Nat) (hj : j < L.length) :
    (Instr.lookup 25 (.map (some w.heap.size)) (.string ⟨(key L j).toArray⟩) true).run Yba.prog wr = .ok (.tuple #[.agg #[.int .i64 (nth L j).2.1, .int .u32 (nth L j).2.2], .bool true]) wr := by
  have e : nth L j = L[j] := by simp [nth, List.getD_eq_getElem?_getD, List.getElem?_eq_getElem hj]
  have hm : nth L j ∈ L := by rw [e]; exact List.getElem_mem hj
  exact look_ok_at h.inv.map h.inv.rel hm (h.inv.sz _ hm)
end
end Go.Proofs.Ybulkcydq
