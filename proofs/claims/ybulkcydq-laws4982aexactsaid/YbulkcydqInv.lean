import Derived.Test.YbulkcydqTokenAll
import Derived.Test.YbulkcydqFind
namespace Go.Proofs.Ybulkcydq
open Go.RowKit Go.Maps Go.Sort

theorem info9 : (Yba.prog.info? 9).map (fun i => (i.zero, i.size, i.bytes)) = some (some (.string ⟨#[]⟩), 1, 16) := by kernel_rfl
theorem info31 : (Yba.prog.info? 31).map (fun i => (i.zero, i.size, i.bytes)) = some (some (.agg #[.int .i64 0, .int .u32 0]), 2, 16) := by kernel_rfl
def nameC (p : Ent) : Value := .string ⟨p.1.toArray⟩
def tsC (p : Ent) : List Value := [.int .i64 p.2.1, .int .u32 p.2.2]
abbrev vS (g n c : Nat) : Value := .slice (some ⟨g, 0, none⟩) n c
/-- The law's own memory: the names, the timestamps, the map. -/
structure LInv (w : World) (gN cN gT cT : Nat) (D : DataW Value) (L : List Ent) (k : Nat) (wr : World) : Prop where
  below : Below w.heap.size w wr
  names : wr.ownsRow w.heap.size 9 1 (vS gN L.length cN) L.length (L.map nameC)
  tss : wr.ownsRow w.heap.size 31 2 (vS gT L.length cT) L.length (L.flatMap tsC)
  map : wr.ownsMap Yba.prog 9 asIs w.heap.size k D
  rel : Rel D L
  len : L.length ≤ k
  sz : ∀ p ∈ L, p.1.length ≤ maxLen
/-- Behind the map's store: the entry's and the timestamp's blocks stand beside. -/
structure Mid (w : World) (gN cN gT cT : Nat) (D : DataW Value) (L : List Ent) (k pe : Nat) (x : List UInt8) (t1 t2 : Int) (w1 : World) : Prop where
  below : Below w.heap.size w w1
  names : w1.ownsRow w.heap.size 9 1 (vS gN L.length cN) L.length (L.map nameC)
  tss : w1.ownsRow w.heap.size 31 2 (vS gT L.length cT) L.length (L.flatMap tsC)
  map : w1.ownsMap Yba.prog 9 asIs w.heap.size (k + 1) (D.put (.string x) (.held (tsV (x, t1, t2).2)))
  e0 : w1.cell? ⟨pe, 0, none⟩ = some (.string ⟨x.toArray⟩)
  bt : w1.heap[pe + 1]? = some (.cells #[.int .i64 t1, .int .u32 t2] 31 (0, 0))
  ne : gT ≠ pe + 1

theorem kind_ne {w : World} {B B' n n' g g' c c' s s' : Nat} {e e' : TypeId} {xs xs' : List Value} (h : w.ownsRow B e s (vS g n c) n xs) (h' : w.ownsRow B' e' s' (vS g' n' c') n' xs') (he : e ≠ e') : g ≠ g' := fun hg => by
  obtain ⟨c1, f1, h1⟩ := Lib.ownsRow_kind h g rfl
  obtain ⟨c2, f2, h2⟩ := Lib.ownsRow_kind h' g' rfl
  rw [hg, h2] at h1
  cases h1; exact he rfl
theorem kind_ne_map {w : World} {P : Program} {B n g c s b k : Nat} {e : TypeId} {xs : List Value} {D : DataW Value} (h : w.ownsRow B e s (vS g n c) n xs) (hm : w.ownsMap P 9 asIs b k D) : g ≠ b := fun hg => by
  obtain ⟨c1, f1, h1⟩ := Lib.ownsRow_kind h g rfl
  obtain ⟨es, cl, hb, _⟩ := hm
  rw [hg, hb] at h1
  cases h1
theorem LInv.mid {w wr w1 : World} {gN cN gT cT : Nat} {D : DataW Value} {L : List Ent} {k : Nat} {x : List UInt8} {t1 t2 : Int} (h : LInv w gN cN gT cT D L k wr)
    (hm : w1.ownsMap Yba.prog 9 asIs w.heap.size (k + 1) (D.put (.string x) (.held (tsV (x, t1, t2).2))))
    (hg : ((wr.alloc (.cells #[.string ⟨x.toArray⟩, .int .i64 t1, .int .u32 t2] 29)).alloc (.cells #[.int .i64 t1, .int .u32 t2] 31)).grownBy w1 (some w.heap.size)) :
    Mid w gN cN gT cT D L k wr.heap.size x t1 t2 w1 := by
  have hlt := h.map.lt
  have hT := h.tss.lt gT rfl
  have hbs := h.below.size
  have b2 : Below w.heap.size w ((wr.alloc (.cells #[.string ⟨x.toArray⟩, .int .i64 t1, .int .u32 t2] 29)).alloc (.cells #[.int .i64 t1, .int .u32 t2] 31)) := (h.below.alloc hbs _).alloc (by rw [Go.Deep.nblk_alloc]; omega) _
  have hb0 : w1.heap[wr.heap.size]? = some (.cells #[.string ⟨x.toArray⟩, .int .i64 t1, .int .u32 t2] 29 (0, 0)) := by
    rw [hg.block _ (by rw [Go.Deep.nblk_alloc, Go.Deep.nblk_alloc]; omega) (by simp; omega), Go.Deep.blk_alloc_lt _ _ _ (by rw [Go.Deep.nblk_alloc]; omega)]
    exact heap_alloc_new wr _
  have hb1 : w1.heap[wr.heap.size + 1]? = some (.cells #[.int .i64 t1, .int .u32 t2] 31 (0, 0)) := by
    rw [hg.block _ (by rw [Go.Deep.nblk_alloc, Go.Deep.nblk_alloc]; omega) (by simp; omega)]
    have := heap_alloc_new (wr.alloc (.cells #[.string ⟨x.toArray⟩, .int .i64 t1, .int .u32 t2] 29)) (.cells #[.int .i64 t1, .int .u32 t2] 31)
    rw [Go.Deep.nblk_alloc] at this
    exact this
  exact ⟨b2.grown hg b2.size (by simp), ((h.names.alloc _).alloc _).kept hg (.inr fun e => kind_ne_map h.names h.map (by simpa [Value.ownBlock] using e)), ((h.tss.alloc _).alloc _).kept hg (.inr fun e => kind_ne_map h.tss h.map (by simpa [Value.ownBlock] using e)), hm, by rw [cell_of_row _ _ _ _ _ _ hb0]; rfl, hb1, by omega⟩
theorem linv_start (w : World) : LInv w (w.heap.size + 1) 0 (w.heap.size + 2) 0 (.map []) [] 0 (((w.alloc (.map #[] 0)).alloc (.cells #[] 9)).alloc (.cells #[] 31)) := by
  have b1 : Below w.heap.size w (w.alloc (.map #[] 0)) := (Below.refl _ _).alloc (Nat.le_refl _) _
  have h1 : (((w.alloc (.map #[] 0)).alloc (.cells #[] 9)).alloc (.cells #[] 31)).heap[w.heap.size + 1]? = some (.cells #[] 9 (0, 0)) := by
    refine (Go.Deep.blk_alloc_lt _ _ _ (by rw [Go.Deep.nblk_alloc, Go.Deep.nblk_alloc]; omega)).trans ?_
    have := heap_alloc_new (w.alloc (.map #[] 0)) (.cells #[] 9)
    rw [Go.Deep.nblk_alloc] at this
    exact this
  have h2 : (((w.alloc (.map #[] 0)).alloc (.cells #[] 9)).alloc (.cells #[] 31)).heap[w.heap.size + 2]? = some (.cells #[] 31 (0, 0)) := by
    have := heap_alloc_new ((w.alloc (.map #[] 0)).alloc (.cells #[] 9)) (.cells #[] 31)
    rw [Go.Deep.nblk_alloc, Go.Deep.nblk_alloc] at this
    exact this
  refine ⟨(b1.alloc (by rw [Go.Deep.nblk_alloc]; omega) _).alloc (by rw [Go.Deep.nblk_alloc, Go.Deep.nblk_alloc]; omega) _, ?_, ?_, ((World.ownsMap_made w _ _ _).alloc _).alloc _, rel_start, by simp, by simp⟩
  · exact ⟨by simp, .inr ⟨w.heap.size + 1, 0, _, rfl, by omega, h1, by simp, by simp, by simp, by simp⟩⟩
  · exact ⟨by simp, .inr ⟨w.heap.size + 2, 0, _, rfl, by omega, h2, by simp, by simp, by simp, by simp⟩⟩
end Go.Proofs.Ybulkcydq
