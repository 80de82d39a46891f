import Derived.Test.YbulkcxwcDoorRound
import Derived.Test.YbulkcxwcDoorShelf
import Derived.Deep.DeepCutAuto
namespace Go.Proofs.YbulkcxwcDoor
open Go.RowKit

theorem mul10 : Mul10 := fun x w hx => Ybad.bits_Mul64 x 10 hx (by decide) w

def Z32 : Array Value := Array.replicate 64 (.int .u8 0)
theorem zero32a : (Ybad.prog.info? 32).map (·.zero) = some (some (.agg Z32)) := by kernel_rfl
theorem zero32 (w : World) : (zeroValue 32).run Ybad.prog w = .ok (.agg Z32) w := by
  have h := zero32a
  cases hq : Ybad.prog.info? 32 with
  | none => rw [hq] at h; cases h
  | some i =>
    rw [hq] at h
    have hz : i.zero = some (.agg Z32) := by simpa using h
    simp [zeroValue, typeInfo, hq, hz]
theorem Z32_size : Z32.size = 64 := by simp [Z32]
theorem Ybad.info5 : (Ybad.prog.info? 5).map (fun i => (i.zero, i.size, i.bytes)) = some (some (.int .u8 0), 1, 1) := by kernel_rfl

/-- appendRounded at work: the digits' block, the slice that is appended to. -/
structure AInv (w : World) (B : Nat) (v : Value) (n : Nat) (xs : List Value) (l : List Nat) (wr : World) : Prop where
  below : Below B w wr
  size : w.heap.size + 2 ≤ wr.heap.size
  own : wr.ownsRow B 5 1 v n xs
  dig : ∃ D, wr.heap[w.heap.size + 1]? = some (.cells D 32 (0, 0)) ∧ D.size = 64 ∧ HoldsD D l

section
variable {w : World} {B : Nat} {v : Value} {n : Nat} {xs : List Value} {l : List Nat} {wr : World}
theorem own_ne {D : Array Value} {b : Nat} (h : wr.ownsRow B 5 1 v n xs) (hb : wr.heap[b]? = some (.cells D 32 (0, 0))) : v.ownBlock = none ∨ ∃ g, v.ownBlock = some g ∧ g ≠ b := by
  rcases h.2 with ⟨rfl, _⟩ | ⟨g, cap, cur, rfl, _, hh, _⟩
  · exact .inl rfl
  · refine .inr ⟨g, rfl, fun e => ?_⟩
    subst e
    rw [hb] at hh; simp at hh
theorem Wrote.grown {b : Nat} {a c : World} (h : Wrote b a c) : a.grownBy c (some b) := ⟨h.os, h.tape, h.output, by rw [h.size]; exact Nat.le_refl _, fun k _ hk => h.block k (fun e => hk (by rw [e]))⟩
theorem AInv.wrote {w1 : World} {D : Array Value} {l' : List Nat} (h : AInv w B v n xs l wr) (hB : B ≤ w.heap.size) (hW : Wrote (w.heap.size + 1) wr w1) (h1 : w1.heap[w.heap.size + 1]? = some (.cells D 32 (0, 0))) (h2 : D.size = 64) (h3 : HoldsD D l') : AInv w B v n xs l' w1 := by
  obtain ⟨D0, hD0, _⟩ := h.dig
  refine ⟨h.below.grown hW.grown (by have := h.size; omega) (fun k hk => by cases hk; omega), by rw [hW.size]; exact h.size, ?_, D, h1, h2, h3⟩
  rcases own_ne h.own hD0 with e | ⟨g, e, hg⟩
  · exact h.own.kept hW.grown (.inl e)
  · exact h.own.kept hW.grown (.inr (by rw [e]; intro x; cases x; exact hg rfl))
theorem AInv.cell (h : AInv w B v n xs l wr) (i : Nat) (hi : i < l.length) : wr.cell? ⟨w.heap.size + 1, i, none⟩ = some (.int .u8 (l.getD i 0)) := by
  obtain ⟨D, h1, _, h3⟩ := h.dig
  rw [cell_of_row wr _ i D 32 (0, 0) h1, h3.2 i hi]
theorem AInv.some (h : AInv w B v n xs l wr) (i : Nat) (hi : i < 64) : ∃ u, wr.cell? ⟨w.heap.size + 1, i, none⟩ = .some u := by
  obtain ⟨D, h1, h2, _⟩ := h.dig
  exact ⟨D[i], by rw [cell_of_row wr _ i D 32 (0, 0) h1, Array.getElem?_eq_getElem (by omega)]⟩
theorem AInv.fro (h : AInv w B v n xs l wr) (i : Nat) : wr.frozen? ⟨w.heap.size + 1, i, none⟩ = false := by
  obtain ⟨D, h1, _⟩ := h.dig
  exact frozen_of_row wr _ i D 32 h1
theorem HoldsD.snoc {D : Array Value} (h : HoldsD D l) (x : Nat) (hl : l.length < D.size) : HoldsD (D.setIfInBounds l.length (.int .u8 x)) (l ++ [x]) := by
  refine ⟨by simp; omega, fun i hi => ?_⟩
  simp at hi
  by_cases e : i = l.length
  · subst e; rw [Array.getElem?_setIfInBounds_self_of_lt hl]; simp
  · rw [Array.getElem?_setIfInBounds_ne (by omega), h.2 i (by omega)]
    simp [List.getElem?_append_left (show i < l.length by omega)]
/-- One digit more is written. -/
theorem AInv.digit (h : AInv w B v n xs l wr) (hB : B ≤ w.heap.size) (x : Nat) (hl : l.length < 64) : AInv w B v n xs (l ++ [x]) (wr.setCell ⟨w.heap.size + 1, l.length, none⟩ (.int .u8 x)) := by
  obtain ⟨D, h1, h2, h3⟩ := h.dig
  exact h.wrote hB ((Wrote.refl _ _).set _ _) (heap_setCell_same _ _ _ _ _ _ h1) (by simp [h2]) (h3.snoc x (by omega))
theorem AInv.grown {w1 : World} {v' : Value} {n' : Nat} {xs' : List Value} (h : AInv w B v n xs l wr) (hB : B ≤ w.heap.size) (hg : wr.grownBy w1 v.ownBlock) (hown : w1.ownsRow B 5 1 v' n' xs') : AInv w B v' n' xs' l w1 := by
  obtain ⟨D, h1, h2, h3⟩ := h.dig
  have hs := h.size
  have hs1 := hg.size
  refine ⟨h.below.grown hg (by omega) (fun k hk => (h.own.lt k hk).1), by omega, hown, D, ?_, h2, h3⟩
  rw [hg.block _ (by omega)]
  · exact h1
  · rcases own_ne h.own h1 with e | ⟨g, e, hne⟩
    · rw [e]; simp
    · rw [e]; intro x; cases x; exact hne rfl
theorem AInv.alloc (h : AInv w B v n xs l wr) (hB : B ≤ w.heap.size) (o : Obj) : AInv w B v n xs l (wr.alloc o) := by
  obtain ⟨D, h1, h2, h3⟩ := h.dig
  have hs := h.size
  exact ⟨h.below.alloc (by omega) o, by simp; omega, h.own.alloc o, D, by rw [Below.heap_alloc _ _ _ (by omega)]; exact h1, h2, h3⟩
/-- Behind AppendUint. -/
theorem AInv.kept {w1 : World} {v' : Value} {n' : Nat} {xs' : List Value} (h : AInv w B v n xs l wr) (hb : Below B wr w1) (hk : Lib.OthersKept 5 none wr w1) (hown : w1.ownsRow B 5 1 v' n' xs') : AInv w B v' n' xs' l w1 := by
  obtain ⟨D, h1, h2, h3⟩ := h.dig
  exact ⟨h.below.trans hb, Nat.le_trans h.size hb.size, hown, D, hk _ _ h1 (by simp) (by intro c fz e; cases e), h2, h3⟩
end

theorem ainv_start {w : World} {B : Nat} {v : Value} {n : Nat} {xs : List Value} (hB : B ≤ w.heap.size) (hown : w.ownsRow B 5 1 v n xs) (o : Obj) : AInv w B v n xs [] ((w.alloc o).alloc (.cells Z32 32)) :=
  ⟨((Below.refl _ _).alloc hB _).alloc (by simp; omega) _, by simp, (hown.alloc _).alloc _, Z32, heap_alloc2_new _ _ _, Z32_size, by simp [HoldsD]⟩

/-- One byte is appended. -/
theorem wpList_app1 {ops : Array Oper} {rest : List Oper} {o : Oper} {a : Act} {Q : Exit → Act → World → Prop} {w : World} {B : Nat} {v : Value} {n : Nat} {xs : List Value} {l : List Nat} {wr : World} (hgd : o.guard = none) (s x : Operand)
    (ho : o.op = .call { callee := .builtin .append, args := #[s, x], argTypes := #[22, 22] }) (hs : a.eval s = v) (ad : Nat) (hx : a.eval x = .slice (some ⟨ad, 0, none⟩) 1 1) (had : ad = wr.heap.size) (k : Int)
    (hi : AInv w B v n xs l wr) (hB : B ≤ w.heap.size) (hn : n < 100000)
    (h : ∀ v' w1, AInv w B v' (n + 1) (xs ++ [.int .u8 k]) l w1 → wpList Ybad.prog ops Q rest (a.put o.dst v') w1) : wpList Ybad.prog ops Q (o :: rest) a (wr.alloc (.cells #[.int .u8 k] 5)) := by
  subst had
  obtain ⟨i0, hi0, hz0, hz1, hz2⟩ := info_parts Ybad.info5
  have hsz := hi.size
  refine wpList_append_own _ hgd s x 22 ho B 5 i0 (.int .u8 0) 1 1 Ybad.underlying22 hi0 hz0 hz1 hz2 rfl (by decide) v n xs hs (hi.own.alloc _) ⟨wr.heap.size, 0, none⟩ 1 1 [.int .u8 k] hx rfl (cell_one_new _ _ _) (by simp [Value.oneCell']) (by unfold maxLen; omega) (by omega) (by simp; omega) ?_
  intro v' w1 ho' hg _
  exact h v' w1 ((hi.alloc hB _).grown hB hg ho')
end Go.Proofs.YbulkcxwcDoor
