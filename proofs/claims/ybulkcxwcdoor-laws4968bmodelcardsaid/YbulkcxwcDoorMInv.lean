import Derived.Test.YbulkcxwcDoorApp10
namespace Go.Proofs.YbulkcxwcDoor
open Go.RowKit

def dcells (l : List Nat) : List Value := l.map fun (d : Nat) => Value.int .u8 (d : Int)
theorem dcells_length (l : List Nat) : (dcells l).length = l.length := by simp [dcells]
theorem dcells_get (l : List Nat) (i : Nat) (h : i < l.length) : (dcells l)[i]? = some (.int .u8 ((l.getD i 0 : Nat) : Int)) := by
  simp [dcells, List.getElem?_eq_getElem h]

/-- The model at work: the digits that it has gathered, k of them. -/
structure MInv (w : World) (ao : Option Addr) (cap k : Nat) (l : List Nat) (wr : World) : Prop where
  below : Below w.heap.size w wr
  own : wr.ownsRow w.heap.size 5 1 (.slice ao k cap) k (dcells l)

section
variable {w : World} {ao : Option Addr} {cap k : Nat} {l : List Nat} {wr : World}
theorem MInv.len (h : MInv w ao cap k l wr) : l.length = k := by have := h.own.1; rw [dcells_length] at this; omega
theorem MInv.addr (h : MInv w ao cap k l wr) (hk : 0 < k) : ∃ g, ao = some ⟨g, 0, none⟩ := by
  rcases h.own.2 with ⟨_, h0⟩ | ⟨g, cap', _, hv, _⟩
  · omega
  · injection hv with h1; exact ⟨g, h1⟩
theorem MInv.caps (h : MInv w ao cap k l wr) : k ≤ cap ∧ cap ≤ 9223372036854775807 := by
  rcases h.own.2 with ⟨hv, h0⟩ | ⟨g, cap', _, hv, _, _, h1, h2, _⟩
  · injection hv with a b c; omega
  · injection hv with a b c; subst c; unfold maxLen at h2; omega
theorem MInv.cell {g : Nat} (h : MInv w (some ⟨g, 0, none⟩) cap k l wr) (i : Nat) (hi : i < k) : wr.cell? ⟨g, i, none⟩ = some (.int .u8 ((l.getD i 0 : Nat) : Int)) := by
  rw [h.own.cellAt i (by omega)]; exact dcells_get l i (by rw [h.len]; exact hi)
theorem MInv.fro {g : Nat} (h : MInv w (some ⟨g, 0, none⟩) cap k l wr) (i : Nat) : wr.frozen? ⟨g, i, none⟩ = false := h.own.frozenAt i
theorem MInv.set {g : Nat} {p q : List Nat} {d : Nat} (h : MInv w (some ⟨g, 0, none⟩) cap k (p ++ d :: q) wr) (x : Nat) : MInv w (some ⟨g, 0, none⟩) cap k (p ++ x :: q) (wr.setCell ⟨g, p.length, none⟩ (.int .u8 x)) := by
  obtain ⟨h1, h2⟩ := h.own.stored p.length (.int .u8 x)
  refine ⟨h.below.grown h2 h.below.size (fun j hj => by cases hj; exact (h.own.lt g rfl).1), ?_⟩
  have e : (dcells (p ++ d :: q)).set p.length (.int .u8 (x : Int)) = dcells (p ++ x :: q) := by simp [dcells]
  rw [e] at h1; exact h1
end
theorem minv_start (w : World) : MInv w none 0 0 [] w := ⟨Below.refl _ _, World.ownsRow_nil _ _ _ _⟩

/-- One digit is appended. -/
theorem wpList_mpush {ops : Array Oper} {rest : List Oper} {o : Oper} {a : Act} {Q : Exit → Act → World → Prop} {w : World} {ao : Option Addr} {cap k : Nat} {l : List Nat} {wr : World} (hgd : o.guard = none) (s x : Operand)
    (ho : o.op = .call { callee := .builtin .append, args := #[s, x], argTypes := #[22, 22] }) (hs : a.eval s = .slice ao k cap) (ad : Nat) (hx : a.eval x = .slice (some ⟨ad, 0, none⟩) 1 1) (had : ad = wr.heap.size) (d : Nat)
    (hi : MInv w ao cap k l wr) (hn : k < 1000)
    (h : ∀ g cap' w1, MInv w (some ⟨g, 0, none⟩) cap' (k + 1) (l ++ [d]) w1 → wpList Ybad.prog ops Q rest (a.put o.dst (.slice (some ⟨g, 0, none⟩) (k + 1) cap')) w1) : wpList Ybad.prog ops Q (o :: rest) a (wr.alloc (.cells #[.int .u8 (d : Int)] 5)) := by
  subst had
  obtain ⟨i0, hi0, hz0, hz1, hz2⟩ := info_parts Ybad.info5
  have hsz := hi.below.size
  refine wpList_append_own _ hgd s x 22 ho w.heap.size 5 i0 (.int .u8 0) 1 1 Ybad.underlying22 hi0 hz0 hz1 hz2 rfl (by decide) _ k _ hs (hi.own.alloc _) ⟨wr.heap.size, 0, none⟩ 1 1 [.int .u8 (d : Int)] hx rfl (cell_one_new _ _ _) (by simp [Value.oneCell']) (by unfold maxLen; omega) (by omega) (by simp; omega) ?_
  intro v' w1 ho' hg _
  obtain ⟨g, cap', hv⟩ : ∃ g cap, v' = .slice (some ⟨g, 0, none⟩) (k + 1) cap := by
    rcases ho'.2 with ⟨_, h0⟩ | ⟨g, cap, _, hv, _⟩
    · omega
    · exact ⟨g, cap, hv⟩
  subst hv
  refine h g cap' w1 ⟨(hi.below.alloc hsz _).grown hg (by simp; omega) (fun j hj => (hi.own.lt j hj).1), ?_⟩
  have e : dcells (l ++ [d]) = dcells l ++ [.int .u8 (d : Int)] := by simp [dcells]
  rw [e]; exact ho'

/-! ### numbers -/
theorem mg_neg (code : Int) (h : code < 0) : -(code + 1) + 1 = (code.natAbs : Int) := by omega
theorem mg_pos (code : Int) (h : ¬ code < 0) : code = (code.natAbs : Int) := by omega
theorem FG (n : Nat) (hn : n ≤ 64) : 2 ^ n * 2 ^ (64 - n) = 18446744073709551616 := by rw [← Nat.pow_add, show n + (64 - n) = 64 by omega]
/-- x times ten, its high and low word. -/
theorem hi_eq {F G f : Nat} (hG : 0 < G) (h : F * G = 18446744073709551616) : f * G * 10 / 18446744073709551616 = 10 * f / F := by
  rw [← h, show f * G * 10 = 10 * f * G by rw [Nat.mul_comm, Nat.mul_assoc]]
  exact Nat.mul_div_mul_right _ _ hG
theorem lo_eq {F G f : Nat} (h : F * G = 18446744073709551616) : f * G * 10 % 18446744073709551616 = 10 * f % F * G := by
  rw [← h, show f * G * 10 = 10 * f * G by rw [Nat.mul_comm, Nat.mul_assoc]]
  exact Nat.mul_mod_mul_right _ _ _
end Go.Proofs.YbulkcxwcDoor
