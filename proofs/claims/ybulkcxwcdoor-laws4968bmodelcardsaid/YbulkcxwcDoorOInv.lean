import Derived.Test.YbulkcxwcDoorMInv
namespace Go.Proofs.YbulkcxwcDoor
open Go.RowKit

/-- The model writes: the digits lie still, 'out' grows. -/
structure OInv (w : World) (B : Nat) (ao : Option Addr) (k : Nat) (l : List Nat) (v : Value) (n : Nat) (xs : List Value) (wr : World) : Prop where
  below : Below w.heap.size w wr
  base : w.heap.size ≤ B
  size : B ≤ wr.heap.size
  ds : ∀ g, ao = some ⟨g, 0, none⟩ → g < B ∧ ∀ i, i < k → wr.cell? ⟨g, i, none⟩ = some (.int .u8 ((l.getD i 0 : Nat) : Int))
  own : wr.ownsRow B 5 1 v n xs

section
variable {w : World} {B : Nat} {ao : Option Addr} {k : Nat} {l : List Nat} {v : Value} {n : Nat} {xs : List Value} {wr : World}
theorem OInv.grown {w1 : World} {v' : Value} {n' : Nat} {xs' : List Value} (h : OInv w B ao k l v n xs wr) (hg : wr.grownBy w1 v.ownBlock) (hown : w1.ownsRow B 5 1 v' n' xs') : OInv w B ao k l v' n' xs' w1 :=
  ⟨h.below.grown hg h.below.size (fun j hj => Nat.le_trans h.base (h.own.lt j hj).1), h.base, Nat.le_trans h.size hg.size,
    fun g hgo => ⟨(h.ds g hgo).1, fun i hi => hg.cell ((h.ds g hgo).2 i hi) (fun e => by have := (h.own.lt g e.symm).1; have := (h.ds g hgo).1; omega)⟩, hown⟩
theorem OInv.alloc (h : OInv w B ao k l v n xs wr) (o : Obj) : OInv w B ao k l v n xs (wr.alloc o) :=
  ⟨h.below.alloc h.below.size o, h.base, by have := h.size; simp; omega,
    fun g hgo => ⟨(h.ds g hgo).1, fun i hi => by
      rw [World.cell?_of_block (w := wr) (Below.heap_alloc _ _ _ (by have := (h.ds g hgo).1; have := h.size; show g < _; omega))]; exact (h.ds g hgo).2 i hi⟩, h.own.alloc o⟩
theorem own_ne39 {D : Array Value} {b : Nat} (h : wr.ownsRow B 5 1 v n xs) (hb : wr.heap[b]? = some (.cells D 39 (0, 0))) : v.ownBlock = none ∨ ∃ g, v.ownBlock = some g ∧ g ≠ b := by
  rcases h.2 with ⟨rfl, _⟩ | ⟨g, cap, cur, rfl, _, hh, _⟩
  · exact .inl rfl
  · refine .inr ⟨g, rfl, fun e => ?_⟩
    subst e
    rw [hb] at hh; simp at hh
theorem OInv.wrote {w1 : World} {D : Array Value} {b : Nat} (h : OInv w B ao k l v n xs wr) (hb : wr.heap[b]? = some (.cells D 39 (0, 0))) (hBb : B ≤ b) (hW : Wrote b wr w1) : OInv w B ao k l v n xs w1 := by
  refine ⟨h.below.grown hW.grown h.below.size (fun j hj => by cases hj; exact Nat.le_trans h.base hBb), h.base, by rw [hW.size]; exact h.size,
    fun g hgo => ⟨(h.ds g hgo).1, fun i hi => ?_⟩, ?_⟩
  · rw [World.cell?_of_block (w := wr) (hW.block _ (by have := (h.ds g hgo).1; show g ≠ b; omega))]; exact (h.ds g hgo).2 i hi
  · rcases own_ne39 h.own hb with e | ⟨g, e, hg⟩
    · exact h.own.kept hW.grown (.inl e)
    · exact h.own.kept hW.grown (.inr (by rw [e]; intro x; cases x; exact hg rfl))
end
theorem oinv_start {w wr : World} {ao : Option Addr} {cap k : Nat} {l : List Nat} (h : MInv w ao cap k l wr) : OInv w wr.heap.size ao k l (.slice none 0 0) 0 [] wr :=
  ⟨h.below, h.below.size, Nat.le_refl _, fun g hgo => by subst hgo; exact ⟨(h.own.lt g rfl).2, fun i hi => h.cell i hi⟩, World.ownsRow_nil _ _ _ _⟩

/-- One byte is appended to 'out'. -/
theorem wpList_opush {ops : Array Oper} {rest : List Oper} {o : Oper} {a : Act} {Q : Exit → Act → World → Prop} {w : World} {B : Nat} {ao : Option Addr} {k : Nat} {l : List Nat} {v : Value} {n : Nat} {xs : List Value} {wr : World} (hgd : o.guard = none) (s x : Operand)
    (ho : o.op = .call { callee := .builtin .append, args := #[s, x], argTypes := #[22, 22] }) (hs : a.eval s = v) (ad : Nat) (hx : a.eval x = .slice (some ⟨ad, 0, none⟩) 1 1) (had : ad = wr.heap.size) (c : Int)
    (hi : OInv w B ao k l v n xs wr) (hn : n < 1000)
    (h : ∀ v' w1, OInv w B ao k l v' (n + 1) (xs ++ [.int .u8 c]) w1 → wpList Ybad.prog ops Q rest (a.put o.dst v') w1) : wpList Ybad.prog ops Q (o :: rest) a (wr.alloc (.cells #[.int .u8 c] 5)) := by
  subst had
  obtain ⟨i0, hi0, hz0, hz1, hz2⟩ := info_parts Ybad.info5
  have hsz := hi.size
  refine wpList_append_own _ hgd s x 22 ho B 5 i0 (.int .u8 0) 1 1 Ybad.underlying22 hi0 hz0 hz1 hz2 rfl (by decide) _ n _ hs (hi.own.alloc _) ⟨wr.heap.size, 0, none⟩ 1 1 [.int .u8 c] hx rfl (cell_one_new _ _ _) (by simp [Value.oneCell']) (by unfold maxLen; omega) (by omega) (by simp; omega) ?_
  intro v' w1 ho' hg _
  exact h v' w1 ((hi.alloc _).grown hg ho')

/-- Many bytes are appended to 'out', out of the array. -/
theorem wpList_omany {ops : Array Oper} {rest : List Oper} {o : Oper} {a : Act} {Q : Exit → Act → World → Prop} {w : World} {B : Nat} {ao : Option Addr} {k : Nat} {l : List Nat} {v : Value} {n : Nat} {xs : List Value} {wr : World} (hgd : o.guard = none) (s x : Operand)
    (ho : o.op = .call { callee := .builtin .append, args := #[s, x], argTypes := #[22, 22] }) (hs : a.eval s = v) (b off m c : Nat) (hx : a.eval x = .slice (some ⟨b, off, none⟩) m c) (bs : List UInt8) (hm : bs.length = m)
    (hcell : ∀ j u, (Lib.byteCells bs)[j]? = some u → wr.cell? ⟨b, off + j, none⟩ = some u)
    (hi : OInv w B ao k l v n xs wr) (hn : n + m < 1000)
    (h : ∀ v' w1, OInv w B ao k l v' (n + m) (xs ++ Lib.byteCells bs) w1 → wpList Ybad.prog ops Q rest (a.put o.dst v') w1) : wpList Ybad.prog ops Q (o :: rest) a wr := by
  obtain ⟨i0, hi0, hz0, hz1, hz2⟩ := info_parts Ybad.info5
  have hsz := hi.size
  refine wpList_append_own _ hgd s x 22 ho B 5 i0 (.int .u8 0) 1 1 Ybad.underlying22 hi0 hz0 hz1 hz2 rfl (by decide) _ n _ hs hi.own ⟨b, off, none⟩ m c (Lib.byteCells bs) hx (by rw [Lib.byteCells_length]; omega) (fun j u hj => by rw [show (⟨b, off, none⟩ : Addr).add j = ⟨b, off + j, none⟩ from by unfold Addr.add; split <;> simp_all]; exact hcell j u hj) (fun u hu => by simp only [Lib.byteCells, List.mem_map] at hu; obtain ⟨y, _, rfl⟩ := hu; rfl) (by unfold maxLen; omega) (by omega) hsz ?_
  intro v' w1 ho' hg _
  exact h v' w1 (hi.grown hg ho')

def Z39 : Array Value := Array.replicate 20 (.int .u8 0)
theorem zero39a : (Ybad.prog.info? 39).map (·.zero) = some (some (.agg Z39)) := by kernel_rfl
theorem zero39 (w : World) : (zeroValue 39).run Ybad.prog w = .ok (.agg Z39) w := by
  have h := zero39a
  cases hq : Ybad.prog.info? 39 with
  | none => rw [hq] at h; cases h
  | some i =>
    rw [hq] at h
    have hz : i.zero = some (.agg Z39) := by simpa using h
    simp [zeroValue, typeInfo, hq, hz]
theorem Z39_size : Z39.size = 20 := by simp [Z39]
theorem alen39 : Ybad.prog.arrayLen 39 = 20 := by simp [Program.arrayLen, Ybad.underlying39]
theorem slice39 (b m : Nat) (hm : m < 20) (W : World) : (Instr.sliceAt 39 (.pointer (some ⟨b, 0, none⟩)) (some (.int .i64 (m : Int))) none none).run Ybad.prog W = .ok (.slice (some ⟨b, m, none⟩) (20 - m) (20 - m)) W := by
  rw [run_sliceAt_array_l W 39 ⟨b, 0, none⟩ (by simp [Program.arrayLen, Program.elem, Ybad.underlying39]) .i64 (m : Int) (by omega) (by rw [alen39]; omega)]
  have e : Ybad.prog.elem 39 = 5 := by simp [Program.elem, Ybad.underlying39]
  rw [e, alen39, Ybad.sizeOf5]
  have hne : ¬ (20 = m) := by omega
  simp [slicedAt, Addr.add, hne]
  exact fun h => h.symm

/-- The array's last cells are these bytes. -/
def Tail (D : Array Value) (sfx : List UInt8) : Prop := D.size = 20 ∧ sfx.length ≤ 20 ∧ D.toList.drop (20 - sfx.length) = Lib.byteCells sfx
theorem tail_nil {D : Array Value} (h : D.size = 20) : Tail D [] := ⟨h, by simp, by simp [Lib.byteCells, h]⟩
theorem tail_cons {D : Array Value} {sfx : List UInt8} (h : Tail D sfx) (hl : sfx.length < 20) (c : Nat) (hc : c < 256) : Tail (D.setIfInBounds (19 - sfx.length) (.int .u8 c)) (c.toUInt8 :: sfx) := by
  obtain ⟨h1, h2, h3⟩ := h
  refine ⟨by simpa using h1, by simp; omega, ?_⟩
  have hlt : 19 - sfx.length < D.toList.length := by simp [h1]; omega
  have e : 20 - (c.toUInt8 :: sfx).length = 19 - sfx.length := by simp
  have hcb : (c.toUInt8).toNat = c := by simp [Nat.toUInt8, UInt8.toNat_ofNat']; exact hc
  rw [e, Array.toList_setIfInBounds, List.drop_eq_getElem_cons (by simpa using hlt), List.getElem_set_self, List.drop_set_of_lt (by omega)]
  rw [show 19 - sfx.length + 1 = 20 - sfx.length by omega, h3]
  simp [Lib.byteCells, hcb]
theorem Tail.cell {D : Array Value} {sfx : List UInt8} (h : Tail D sfx) {wr : World} {b : Nat} (hb : wr.heap[b]? = some (.cells D 39 (0, 0))) : ∀ j u, (Lib.byteCells sfx)[j]? = some u → wr.cell? ⟨b, 20 - sfx.length + j, none⟩ = some u := by
  intro j u hj
  rw [cell_of_row wr b _ D 39 (0, 0) hb, ← Array.getElem?_toList, ← List.getElem?_drop, h.2.2]; exact hj
theorem dec_small {u : Nat} (h : u / 10 = 0) : Lib.decDigits u = [(48 + u % 10).toUInt8] := by
  rw [Lib.decDigits, dif_pos (by omega), show u % 10 = u by omega]
theorem dec_big {u : Nat} (h : u / 10 ≠ 0) : Lib.decDigits u = Lib.decDigits (u / 10) ++ [(48 + u % 10).toUInt8] := by
  rw [Lib.decDigits, dif_neg (by omega)]
theorem dec_pos (u : Nat) : 0 < (Lib.decDigits u).length := by
  by_cases h : u / 10 = 0
  · rw [dec_small h]; simp
  · rw [dec_big h]; simp
end Go.Proofs.YbulkcxwcDoor
