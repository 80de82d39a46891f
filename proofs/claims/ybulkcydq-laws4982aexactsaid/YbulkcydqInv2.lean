import Derived.Test.YbulkcydqInv
namespace Go.Proofs.Ybulkcydq
open Go.RowKit Go.Maps Go.Sort

section
variable {w w1 : World} {gN cN gT cT : Nat} {D : DataW Value} {L : List Ent} {k pe : Nat} {x : List UInt8} {t1 t2 : Int}

theorem key_cell {w1 : World} {B : Nat} {L : List Ent} (h : w1.ownsRow B 9 1 (vS gN L.length cN) L.length (L.map nameC)) (i : Nat) (hi : i < L.length) : w1.cell? ⟨gN, i, none⟩ = some (.string ⟨(key L i).toArray⟩) := by
  rw [h.cellAt i (by omega)]
  simp [List.getElem?_eq_getElem hi, nameC, key]
theorem key_mem {L : List Ent} {x : List UInt8} (h : ∀ i, i < L.length → key L i ≠ x) : x ∉ keys L := fun hm => by
  obtain ⟨p, hp, rfl⟩ := List.mem_map.1 hm
  obtain ⟨i, hi, rfl⟩ := List.mem_iff_getElem.1 hp
  exact h i hi (by simp [key, List.getElem?_eq_getElem hi])
theorem Mid.find (h : Mid w gN cN gT cT D L k pe x t1 t2 w1) (hk : L.length ≤ 1024) :
    Calls Yba.prog 6 #[vS gN L.length cN, .string ⟨x.toArray⟩] w1 fun e w' => w' = w1 ∧ ((e = .returned (.int .i64 (-1)) ∧ x ∉ keys L) ∨ ∃ j : Nat, j < L.length ∧ key L j = x ∧ e = .returned (.int .i64 j)) :=
  (find_any gN L.length cN (key L) x w1 hk (fun i hi => key_cell h.names i hi)).mono fun _ _ ⟨a, b⟩ => ⟨a, b.imp (fun ⟨c, d⟩ => ⟨c, key_mem d⟩) id⟩

/-- The name is appended, the timestamp not yet. -/
structure Mid2 (w : World) (gN' cN' gT cT : Nat) (D : DataW Value) (L : List Ent) (k pe : Nat) (x : List UInt8) (t1 t2 : Int) (w1 : World) : Prop where
  below : Below w.heap.size w w1
  names : w1.ownsRow w.heap.size 9 1 (vS gN' (L.length + 1) cN') (L.length + 1) (L.map nameC ++ [.string ⟨x.toArray⟩])
  tss : w1.ownsRow w.heap.size 31 2 (vS gT L.length cT) L.length (L.flatMap tsC)
  map : w1.ownsMap Yba.prog 9 asIs w.heap.size (k + 1) (D.put (.string x) (.held (tsV (x, t1, t2).2)))
  bt : w1.heap[pe + 1]? = some (.cells #[.int .i64 t1, .int .u32 t2] 31 (0, 0))

theorem Mid.appN {ops : Array Oper} {rest : List Oper} {o : Oper} {a : Act} {Q : Exit → Act → World → Prop} (h : Mid w gN cN gT cT D L k pe x t1 t2 w1) (hl : L.length ≤ 1024) (hgd : o.guard = none) (s y : Operand) (ho : o.op = .call { callee := .builtin .append, args := #[s, y], argTypes := #[26, 26] }) (hs : a.eval s = vS gN L.length cN) (ad : Nat) (hy : a.eval y = .slice (some ⟨ad, 0, none⟩) 1 1) (had : ad = w1.heap.size)
    (hK : ∀ g' c' w2, Mid2 w g' c' gT cT D L k pe x t1 t2 w2 → wpList Yba.prog ops Q rest (a.put o.dst (.slice (some ⟨g', 0, none⟩) (L.length + 1) c')) w2) :
    wpList Yba.prog ops Q (o :: rest) a (w1.alloc (.cells #[.string ⟨x.toArray⟩] 9)) := by
  obtain ⟨i0, hi0, hz0, hz1, hz2⟩ := info_parts info9
  subst had
  have ba : Below w.heap.size w (w1.alloc (.cells #[.string ⟨x.toArray⟩] 9)) := h.below.alloc h.below.size _
  refine wpList_append_own _ hgd s y 26 ho w.heap.size 9 i0 _ 1 16 Yba.underlying26 hi0 hz0 hz1 hz2 rfl (by decide) _ L.length _ hs (h.names.alloc _) ⟨w1.heap.size, 0, none⟩ 1 1 [.string ⟨x.toArray⟩] hy rfl (cell_one_new _ _ _) (by simp [Value.oneCell']) (by unfold maxLen; omega) (by omega) ba.size ?_
  intro v' w2 o2 g2 _
  obtain ⟨g', c', rfl⟩ := Go.Joins.ownsRow_form o2 (by omega)
  have hpe := (Array.getElem?_eq_some_iff.1 h.bt).1
  have hne : gN ≠ pe + 1 := fun e => by
    obtain ⟨c1, f1, h1⟩ := Lib.ownsRow_kind h.names gN rfl
    rw [e, h.bt] at h1
    cases h1
  refine hK g' c' w2 ⟨ba.grown g2 ba.size (fun i hi => (h.names.lt i hi).1), o2, (h.tss.alloc _).kept g2 (.inr fun e => kind_ne h.names h.tss (by decide) (by simpa [Value.ownBlock] using e.symm)), (h.map.alloc _).kept g2 (fun e => kind_ne_map h.names h.map (by simpa [Value.ownBlock] using e.symm)), ?_⟩
  rw [g2.block _ (by rw [Go.Deep.nblk_alloc]; omega) (by simp [Value.ownBlock]; exact fun e => hne e.symm), Go.Deep.blk_alloc_lt _ _ _ hpe]; exact h.bt

theorem cell_two_new (w : World) (x y : Value) (t : TypeId) : ∀ j u, [x, y][j]? = some u → (w.alloc (.cells #[x, y] t)).cell? ((⟨w.heap.size, 0, none⟩ : Addr).add j) = some u := by
  intro j u hu
  rw [show (⟨w.heap.size, 0, none⟩ : Addr).add j = ⟨w.heap.size, j, none⟩ from by unfold Addr.add; split <;> simp_all, cell_of_row _ _ _ _ _ _ (heap_alloc_new w _)]
  simpa using hu
theorem Mid2.appT {ops : Array Oper} {rest : List Oper} {o : Oper} {a : Act} {Q : Exit → Act → World → Prop} (h : Mid2 w gN cN gT cT D L k pe x t1 t2 w1) (hl : L.length ≤ 1024) (hrel : Rel D L) (hlen : L.length ≤ k) (hsz : ∀ p ∈ L, p.1.length ≤ maxLen) (hxs : x.length ≤ maxLen) (hx : x ∉ keys L) (hgd : o.guard = none) (s y : Operand) (ho : o.op = .call { callee := .builtin .append, args := #[s, y], argTypes := #[27, 27] }) (hs : a.eval s = vS gT L.length cT) (ad : Nat) (hy : a.eval y = .slice (some ⟨ad, 0, none⟩) 1 1) (had : ad = w1.heap.size)
    (hK : ∀ g' c' D' w2, LInv w gN cN g' c' D' (L ++ [(x, t1, t2)]) (k + 1) w2 → wpList Yba.prog ops Q rest (a.put o.dst (.slice (some ⟨g', 0, none⟩) (L.length + 1) c')) w2) :
    wpList Yba.prog ops Q (o :: rest) a (w1.alloc (.cells #[.int .i64 t1, .int .u32 t2] 31)) := by
  obtain ⟨i0, hi0, hz0, hz1, hz2⟩ := info_parts info31
  subst had
  have ba : Below w.heap.size w (w1.alloc (.cells #[.int .i64 t1, .int .u32 t2] 31)) := h.below.alloc h.below.size _
  refine wpList_append_own _ hgd s y 27 ho w.heap.size 31 i0 _ 2 16 Yba.underlying27 hi0 hz0 hz1 hz2 rfl (by decide) _ L.length _ hs (h.tss.alloc _) ⟨w1.heap.size, 0, none⟩ 1 1 [.int .i64 t1, .int .u32 t2] hy rfl (cell_two_new _ _ _ _) (by simp [Value.oneCell']) (by unfold maxLen; omega) (by omega) ba.size ?_
  intro v' w2 o2 g2 _
  obtain ⟨g', c', rfl⟩ := Go.Joins.ownsRow_form o2 (by omega)
  refine hK g' c' _ w2 ⟨ba.grown g2 ba.size (fun i hi => (h.tss.lt i hi).1), ?_, ?_, (h.map.alloc _).kept g2 (fun e => kind_ne_map h.tss h.map (by simpa [Value.ownBlock] using e.symm)), rel_append hrel x (t1, t2) hx, by simp; omega, fun p hp => ?_⟩
  · have := (h.names.alloc (.cells #[.int .i64 t1, .int .u32 t2] 31)).kept g2 (.inr fun e => kind_ne h.names h.tss (by decide) (by simpa [Value.ownBlock] using e))
    simpa [nameC] using this
  · simpa [tsC, List.flatMap_append] using o2
  · rcases List.mem_append.1 hp with hp | hp
    · exact hsz p hp
    · simp at hp; subst hp; exact hxs

theorem flat_get (L : List Ent) : ∀ j, j < L.length → (L.flatMap tsC)[j * 2]? = some (.int .i64 (nth L j).2.1) ∧ (L.flatMap tsC)[j * 2 + 1]? = some (.int .u32 (nth L j).2.2) := by
  induction L with
  | nil => intro j hj; simp at hj
  | cons a t ih =>
    intro j hj
    cases j with
    | zero => simp [tsC, nth]
    | succ j =>
      have := ih j (by simpa using hj)
      rw [List.flatMap_cons, show (j + 1) * 2 = j * 2 + 2 by omega, show j * 2 + 2 + 1 = (j * 2 + 1) + 2 by omega]
      simpa [tsC, nth] using this
theorem ts_cell {w1 : World} {B : Nat} {L : List Ent} (h : w1.ownsRow B 31 2 (vS gT L.length cT) L.length (L.flatMap tsC)) (j : Nat) (hj : j < L.length) :
    w1.cell? ⟨gT, j * 2, none⟩ = some (.int .i64 (nth L j).2.1) ∧ w1.cell? ⟨gT, j * 2 + 1, none⟩ = some (.int .u32 (nth L j).2.2) := by
  rw [h.cellAt (j * 2) (by omega), h.cellAt (j * 2 + 1) (by omega)]
  exact flat_get L j hj
theorem flat_set (L : List Ent) : ∀ (j : Nat) (p : Ent), j < L.length → ((L.flatMap tsC).set (j * 2) (.int .i64 p.2.1)).set (j * 2 + 1) (.int .u32 p.2.2) = (L.set j p).flatMap tsC := by
  induction L with
  | nil => intro j p hj; simp at hj
  | cons a t ih =>
    intro j p hj
    cases j with
    | zero => simp [tsC]
    | succ j =>
      have := ih j p (by simpa using hj)
      rw [List.flatMap_cons, show (j + 1) * 2 = j * 2 + 2 by omega, show j * 2 + 2 + 1 = (j * 2 + 1) + 2 by omega, List.set_cons_succ, List.flatMap_cons, ← this]
      simp [tsC]
theorem name_set (L : List Ent) (j : Nat) (p : Ent) : (L.map nameC).set j (nameC p) = (L.set j p).map nameC := by
  rw [List.map_set]
theorem Mid.setT (h : Mid w gN cN gT cT D L k pe x t1 t2 w1) (hrel : Rel D L) (hlen : L.length ≤ k) (hsz : ∀ p ∈ L, p.1.length ≤ maxLen) (hxs : x.length ≤ maxLen) (j : Nat) (hj : j < L.length) (hx : key L j = x) :
    LInv w gN cN gT cT (D.put (.string x) (.held (tsV (x, t1, t2).2))) (L.set j (x, t1, t2)) (k + 1) ((w1.setCell ⟨gT, j * 2, none⟩ (.int .i64 t1)).setCell ⟨gT, j * 2 + 1, none⟩ (.int .u32 t2)) := by
  obtain ⟨s1, _⟩ := h.tss.stored (j * 2) (.int .i64 t1)
  obtain ⟨s2, _⟩ := s1.stored (j * 2 + 1) (.int .u32 t2)
  have hTN := kind_ne h.names h.tss (by decide)
  have hTM := kind_ne_map h.tss h.map
  have hB := (h.tss.lt gT rfl).1
  have hk' : (L.set j (x, t1, t2)).map nameC = L.map nameC := by
    have := keys_set (t1, t2) hj hx
    have e : ∀ M : List Ent, M.map nameC = (keys M).map fun y => .string ⟨y.toArray⟩ := fun M => by simp [keys, nameC]
    rw [e, e, this]
  refine ⟨(h.below.setCell hB _).setCell hB _, ?_, ?_, (h.map.setCell (fun e => hTM e.symm) _).setCell (fun e => hTM e.symm) _, rel_set hrel x (t1, t2) j hj hx, by simp; omega, fun p hp => ?_⟩
  · rw [hk', List.length_set]
    exact ownsRow_setCell_other (ownsRow_setCell_other h.names (by simp [Value.ownBlock]; exact hTN) _) (by simp [Value.ownBlock]; exact hTN) _
  · rw [← flat_set L j (x, t1, t2) hj, List.length_set]; exact s2
  · rcases List.mem_or_eq_of_mem_set hp with h1 | h1
    · exact hsz p h1
    · subst h1; exact hxs
end
end Go.Proofs.Ybulkcydq
