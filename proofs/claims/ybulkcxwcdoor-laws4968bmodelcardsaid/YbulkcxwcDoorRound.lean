import Derived.Test.YbulkcxwcDoorLeaf
namespace Go.Proofs.YbulkcxwcDoor
open Go.RowKit

/-- Nothing but block b has turned. -/
structure Wrote (b : Nat) (w w' : World) : Prop where
  os : w'.os = w.os
  tape : w'.tape = w.tape
  output : w'.output = w.output
  size : w'.heap.size = w.heap.size
  block : ∀ k, k ≠ b → w'.heap[k]? = w.heap[k]?
theorem Wrote.refl (b : Nat) (w : World) : Wrote b w w := ⟨rfl, rfl, rfl, rfl, fun _ _ => rfl⟩
theorem Wrote.set {b : Nat} {w w' : World} (h : Wrote b w w') (i : Nat) (v : Value) : Wrote b w (w'.setCell ⟨b, i, none⟩ v) :=
  ⟨h.os, h.tape, h.output, by simpa [World.setCell] using h.size, fun k hk => (heap_setCell_other _ _ _ _ hk).trans (h.block k hk)⟩
theorem Wrote.trans {b : Nat} {w w' w'' : World} (h : Wrote b w w') (k : Wrote b w' w'') : Wrote b w w'' :=
  ⟨k.os.trans h.os, k.tape.trans h.tape, k.output.trans h.output, k.size.trans h.size, fun j hj => (k.block j hj).trans (h.block j hj)⟩

/-- The block's first cells are these digits. -/
def HoldsD (D : Array Value) (l : List Nat) : Prop := l.length ≤ D.size ∧ ∀ i, i < l.length → D[i]? = some (.int .u8 (l.getD i 0))
theorem HoldsD.set {D : Array Value} {p q : List Nat} {d : Nat} (h : HoldsD D (p ++ d :: q)) (x : Nat) : HoldsD (D.setIfInBounds p.length (.int .u8 x)) (p ++ x :: q) := by
  have hl := h.1
  simp at hl
  refine ⟨by simp; omega, fun i hi => ?_⟩
  simp at hi
  by_cases e : i = p.length
  · subst e
    rw [Array.getElem?_setIfInBounds_self_of_lt (by omega)]; simp
  · rw [Array.getElem?_setIfInBounds_ne (by omega), h.2 i (by simp; omega)]
    by_cases hlt : i < p.length
    · simp [List.getElem?_append_left hlt]
    · obtain ⟨m, rfl⟩ : ∃ m, i = p.length + (m + 1) := ⟨i - p.length - 1, by omega⟩
      simp [List.getElem?_append_right]

theorem nil_or_snoc (p : List Nat) : p = [] ∨ ∃ q d, p = q ++ [d] := by
  rcases List.eq_nil_or_concat p with h | ⟨q, d, h⟩
  · exact .inl h
  · exact .inr ⟨q, d, by simpa using h⟩

set_option maxHeartbeats 400000 in
/-- roundUp. -/
theorem round_any (l : List Nat) (b cap t : Nat) (D : Array Value) (w : World) (h9 : ∀ d ∈ l, d ≤ 9) (hcap : l.length ≤ 64)
    (hb : w.heap[b]? = some (.cells D t (0, 0))) (hD : HoldsD D l) :
    Calls Ybad.prog 9 #[.slice (some ⟨b, 0, none⟩) l.length cap] w fun e w' => e = .returned (.bool (rup l).2) ∧ ∃ D', w'.heap[b]? = some (.cells D' t (0, 0)) ∧ D'.size = D.size ∧ HoldsD D' (rup l).1 ∧ Wrote b w w' := by
  go_enter Ybad.func9, Ybad.ntmps9
  go_wp2
  go_loopw [3] (fun i wr => ∃ (p : List Nat) (k : Nat) (D' : Array Value), Hid (l = p ++ List.replicate k 9) ∧ i = .int .i64 ((p.length : Int) - 1) ∧ wr.heap[b]? = some (.cells D' t (0, 0)) ∧ D'.size = D.size ∧ HoldsD D' (p ++ List.replicate k 0) ∧ Wrote b w wr) (fun i _ => ((intOf i) + 1).toNat)
  case atStart => exact ⟨l, 0, D, by show l = _; simp, rfl, hb, rfl, by simpa using hD, Wrote.refl _ _⟩
  case round =>
    obtain ⟨p, k, D', HL, rfl, hb', hs', hD', hW⟩ := hrel
    rcases nil_or_snoc p with rfl | ⟨p, d, rfl⟩
    · have hr : rup l = (List.replicate k 0, true) := by rw [HL.out]; exact rup_nines k
      have e1 : ((([] : List Nat).length : Nat) : Int) - 1 = -1 := rfl
      rw [e1]
      have HR : Hid (rup l = (List.replicate k 0, true)) := hr
      clear hr e1
      go_wp2
      go_ret
      rw [HR.out]
      exact ⟨rfl, D', hb', hs', by simpa using hD', hW⟩
    · have hl : l = p ++ d :: List.replicate k 9 := by rw [HL.out]; simp
      have hD2 : HoldsD D' (p ++ d :: List.replicate k 0) := by simpa using hD'
      have e1 : ((p ++ [d]).length : Int) - 1 = (p.length : Int) := by simp
      rw [e1]
      have hpl : p.length < l.length := by rw [hl]; simp
      have hd9 : d ≤ 9 := h9 d (by rw [hl]; simp)
      have hc : wr.cell? ⟨b, p.length, none⟩ = some (.int .u8 d) := by
        rw [cell_of_row wr b _ D' t (0, 0) hb', hD2.2 p.length (by simp)]; simp
      have hf := frozen_of_row wr b p.length D' t hb'
      by_cases hd : d < 9
      · have hr : rup l = (p ++ (d + 1) :: List.replicate k 0, false) := by rw [hl]; exact rup_hit d k hd p
        have HR : Hid (rup l = (p ++ (d + 1) :: List.replicate k 0, false)) := hr
        have HD : Hid (HoldsD D' (p ++ d :: List.replicate k 0)) := hD2
        clear hr e1 hl hD' hD2 HL
        go_wp2
        go_ret
        rw [HR.out]
        exact ⟨rfl, _, heap_setCell_same _ _ _ _ _ _ hb', by simp [hs'], HD.out.set (d + 1), hW.set _ _⟩
      · obtain rfl : d = 9 := by omega
        have HD : Hid (HoldsD D' (p ++ 9 :: List.replicate k 0)) := hD2
        have HL2 : Hid (l = p ++ List.replicate (k + 1) 9) := by rw [hl, List.replicate_succ]; exact rfl
        clear e1 hl hD' hD2 HL
        go_wp2
        go_roundw
        case rel => exact ⟨p, k + 1, _, HL2, by go_num, heap_setCell_same _ _ _ _ _ _ hb', by simp [hs'], by rw [List.replicate_succ]; exact HD.out.set 0, hW.set _ _⟩
        case measure => simp [intOf]
end Go.Proofs.YbulkcxwcDoor
