import Derived.Test.YbulkcydqInv3
namespace Go.Proofs.Ybulkcydq
open Go.RowKit Go.Maps Go.Sort

theorem own_below {w w' : World} {B e size n : Nat} {v : Value} {xs : List Value} (h : w.ownsRow B e size v n xs) (hb : Below w.heap.size w w') : w'.ownsRow B e size v n xs :=
  h.kept (row := none) ⟨hb.os, hb.tape, hb.output, hb.size, fun j hj _ => hb.block j hj⟩ (by cases hv : v.ownBlock <;> simp)
theorem map_below {w w' : World} {b n : Nat} {D : DataW Value} (h : w.ownsMap Yba.prog 9 asIs b n D) (hb : Below w.heap.size w w') : w'.ownsMap Yba.prog 9 asIs b n D := by
  have hl := h.lt
  obtain ⟨es, cl, hbk, r⟩ := h
  exact ⟨es, cl, (hb.block b hl).trans hbk, r⟩
section
variable {w wr : World} {gN cN gT cT : Nat} {D : DataW Value} {L : List Ent} {k : Nat}
theorem LInv.alloc (h : LInv w gN cN gT cT D L k wr) (o : Obj) : LInv w gN cN gT cT D L k (wr.alloc o) :=
  ⟨h.below.alloc h.below.size _, h.names.alloc _, h.tss.alloc _, h.map.alloc _, h.rel, h.len, h.sz⟩
theorem LInv.kept {w' : World} (h : LInv w gN cN gT cT D L k wr) (hb : Below wr.heap.size wr w') : LInv w gN cN gT cT D L k w' :=
  ⟨h.below.trans (hb.mono h.below.size), own_below h.names hb, own_below h.tss hb, map_below h.map hb, h.rel, h.len, h.sz⟩

/-- The world behind an exchange, as the walk spells it. -/
def swV (gN gT q : Nat) (s1 s2 : List UInt8) (a1 a2 a3 a4 : Int) (wr : World) : World :=
  (((((wr.setCell ⟨gN, q, none⟩ (.string ⟨s2.toArray⟩)).setCell ⟨gN, q - 1, none⟩ (.string ⟨s1.toArray⟩)).setCell ⟨gT, q * 2, none⟩ (.int .i64 a3)).setCell ⟨gT, q * 2 + 1, none⟩ (.int .u32 a4)).setCell ⟨gT, (q - 1) * 2, none⟩ (.int .i64 a1)).setCell ⟨gT, (q - 1) * 2 + 1, none⟩ (.int .u32 a2)
theorem LInv.swapped2 (h : LInv w gN cN gT cT D L k wr) (q : Nat) (hq : q < L.length) (h0 : 0 < q) : LInv w gN cN gT cT D (swap L q) k (swV gN gT q (nth L q).1 (nth L (q - 1)).1 (nth L q).2.1 (nth L q).2.2 (nth L (q - 1)).2.1 (nth L (q - 1)).2.2 wr) := by
  have hTN : gN ≠ gT := kind_ne h.names h.tss (by decide)
  have hTM := kind_ne_map h.tss h.map
  have hNM := kind_ne_map h.names h.map
  have hBT := (h.tss.lt gT rfl).1
  have hBN := (h.names.lt gN rfl).1
  have n1 := LInv.setN h.names q (nth L (q - 1))
  have e1 : (L.set q (nth L (q - 1))).length = L.length := List.length_set
  have n2 := LInv.setN (L := L.set q (nth L (q - 1))) (cN := cN) (by rw [e1]; exact n1) (q - 1) (nth L q)
  have t0 : ((wr.setCell ⟨gN, q, none⟩ (nameC (nth L (q - 1)))).setCell ⟨gN, q - 1, none⟩ (nameC (nth L q))).ownsRow w.heap.size 31 2 (vS gT L.length cT) L.length (L.flatMap tsC) :=
    ownsRow_setCell_other (ownsRow_setCell_other h.tss (by simp [Value.ownBlock]; exact fun e => hTN e.symm) _) (by simp [Value.ownBlock]; exact fun e => hTN e.symm) _
  have t1 := LInv.setTs t0 q (nth L (q - 1)) hq
  have t2 := LInv.setTs (M := L.set q (nth L (q - 1))) (cT := cT) (by rw [e1]; exact t1) (q - 1) (nth L q) (by rw [e1]; omega)
  have ko : ∀ {W : World} (_ : W.ownsRow w.heap.size 9 1 (vS gN L.length cN) L.length ((swap L q).map nameC)) (i : Nat) (u : Value), (W.setCell ⟨gT, i, none⟩ u).ownsRow w.heap.size 9 1 (vS gN L.length cN) L.length ((swap L q).map nameC) := fun hh i u => ownsRow_setCell_other hh (by simp [Value.ownBlock]; exact hTN) u
  have sl := swap_len L q
  have hb0 := h.below
  have b1 : Below w.heap.size w ((wr.setCell ⟨gN, q, none⟩ (nameC (nth L (q - 1)))).setCell ⟨gN, q - 1, none⟩ (nameC (nth L q))) := (h.below.setCell hBN _).setCell hBN _
  have b2 : Below w.heap.size w (swV gN gT q (nth L q).1 (nth L (q - 1)).1 (nth L q).2.1 (nth L q).2.2 (nth L (q - 1)).2.1 (nth L (q - 1)).2.2 wr) := (((b1.setCell hBT _).setCell hBT _).setCell hBT _).setCell hBT _
  refine ⟨b2, ?_, ?_, ?_, rel_perm h.rel (swap_perm L q hq h0), by rw [sl]; exact h.len, fun p hp => h.sz p ((swap_perm L q hq h0).mem_iff.2 hp)⟩
  · rw [sl]
    rw [e1] at n2
    exact ko (ko (ko (ko n2 _ _) _ _) _ _) _ _
  · rw [sl]
    rw [e1] at t2
    exact t2
  · have m1 := ((h.map.setCell (a := ⟨gN, q, none⟩) (fun e => hNM e.symm) (nameC (nth L (q - 1)))).setCell (a := ⟨gN, q - 1, none⟩) (fun e => hNM e.symm) (nameC (nth L q)))
    exact (((m1.setCell (a := ⟨gT, _, none⟩) (fun e => hTM e.symm) _).setCell (a := ⟨gT, _, none⟩) (fun e => hTM e.symm) _).setCell (a := ⟨gT, _, none⟩) (fun e => hTM e.symm) _).setCell (a := ⟨gT, _, none⟩) (fun e => hTM e.symm) _
theorem LInv.swapped3 (h : LInv w gN cN gT cT D L k wr) (q : Nat) (hq : q < L.length) (h0 : 0 < q) (o : Obj) {s1 s2 : List UInt8} {a1 a2 a3 a4 : Int} (hs : key L q = s1 ∧ key L (q - 1) = s2 ∧ (nth L q).2.1 = a1 ∧ (nth L q).2.2 = a2 ∧ (nth L (q - 1)).2.1 = a3 ∧ (nth L (q - 1)).2.2 = a4) :
    LInv w gN cN gT cT D (swap L q) k (World.alloc ((((((wr.setCell ⟨gN, q, none⟩ (.string ⟨s2.toArray⟩)).setCell ⟨gN, q - 1, none⟩ (.string ⟨s1.toArray⟩)).setCell ⟨gT, q * 2, none⟩ (.int .i64 a3)).setCell ⟨gT, q * 2 + 1, none⟩ (.int .u32 a4)).setCell ⟨gT, (q - 1) * 2, none⟩ (.int .i64 a1)).setCell ⟨gT, (q - 1) * 2 + 1, none⟩ (.int .u32 a2)) o) := by
  obtain ⟨rfl, rfl, rfl, rfl, rfl, rfl⟩ := hs
  exact (h.swapped2 q hq h0).alloc o
end

/-- 'v, ok := m[k]' at a key of the list. -/
theorem look_ok_at {wr : World} {b nn : Nat} {D : DataW Value} {L : List Ent} {p : Ent} (hm : wr.ownsMap Yba.prog 9 asIs b nn D) (hr : Rel D L) (hp : p ∈ L) (hs : p.1.length ≤ maxLen) :
    (Instr.lookup 25 (.map (some b)) (.string ⟨p.1.toArray⟩) true).run Yba.prog wr = .ok (.tuple #[.agg #[.int .i64 p.2.1, .int .u32 p.2.2], .bool true]) wr := by
  obtain ⟨v, ps, hrun, hv⟩ := hm.look_ok (zd := .held (.agg #[.int .i64 0, .int .u32 0])) (zp := []) law9 Yba.underlying25 (zero31 wr) rfl (key := .string ⟨p.1.toArray⟩) (kl := .string p.1) (by
    have := Go.WideMaps.keyOf_string_mk Yba.underlying9 (s := ⟨p.1.toArray⟩) (by simpa [ByteArray.size] using hs)
    simpa using this)
  rw [hr.at_ p hp] at hv
  simp only [asIs, Option.some.injEq, Prod.mk.injEq, DataW.held.injEq] at hv
  rw [(hr.has p.1).2 (List.mem_map_of_mem hp)] at hrun
  rw [hrun, hv.1]; rfl
end Go.Proofs.Ybulkcydq
