import Derived.Test.YbulkcydqInv5
namespace Go.Proofs.Ybulkcydq
open Go.RowKit Go.Maps Go.Sort

theorem tok_bd {w w2 : World} {bms bn : Int} {B g c : Nat} (ho : w2.ownsRow B 39 3 (.slice (some ⟨g, 0, none⟩) (1 + [].length (α := Ent)) c) (1 + [].length (α := Ent)) (tokC bms bn [])) (hb : Below (w.alloc (.cells #[.int .i64 bms, .int .u32 bn] 31)).heap.size (w.alloc (.cells #[.int .i64 bms, .int .u32 bn] 31)) w2) :
    (w2.cell? ⟨g, 0, none⟩ = some (.string ⟨#[42]⟩) ∧ w2.cell? ⟨g, 1, none⟩ = some (.int .i64 bms) ∧ w2.cell? ⟨g, 2, none⟩ = some (.int .u32 bn)) ∧ w2.cell? ⟨w.heap.size, 0, none⟩ = some (.int .i64 bms) ∧ w2.cell? ⟨w.heap.size, 1, none⟩ = some (.int .u32 bn) := by
  have hbd : w2.heap[w.heap.size]? = some (.cells #[.int .i64 bms, .int .u32 bn] 31 (0, 0)) := by rw [hb.block _ (by rw [Go.Deep.nblk_alloc]; omega)]; exact heap_alloc_new w _
  rw [ho.cellAt 0 (by simp), ho.cellAt 1 (by simp), ho.cellAt 2 (by simp), cell_of_row _ _ _ _ _ _ hbd, cell_of_row _ _ _ _ _ _ hbd]
  exact ⟨⟨rfl, rfl, rfl⟩, rfl, rfl⟩

theorem below_drewN {B : Nat} {w w' : World} (h : Below B w w') (q : Nat) : Below B w (w'.drewN q) := by
  induction q with
  | zero => exact h
  | succ q ih => exact ih.drew

set_option maxRecDepth 100000 in
set_option maxHeartbeats 4000000 in
theorem law_long (bms bn : Int) (a0 : Option Addr) (len cap : Nat) (nm wh : Bool) (w : World) (hlen : 1024 < len) :
    Calls Yba.prog 3 #[.int .i64 bms, .int .u32 bn, .slice a0 len cap, .bool nm, .bool wh] w fun e w' => e = .returned (.bool true) ∧ Below w.heap.size w w' := by
  have hl : (1024 : Int) < (len : Int) := by omega
  have hl2 : ¬ (len : Int) ≤ 1024 := by omega
  go_enter Yba.func3, Yba.ntmps3
  go_wp2_with fail
  go_ret
  exact ⟨rfl, Below.refl _ _⟩

set_option maxRecDepth 100000 in
set_option maxHeartbeats 4000000 in
theorem law_nil (bms bn : Int) (a0 : Option Addr) (cap : Nat) (wh : Bool) (w : World) :
    Calls Yba.prog 3 #[.int .i64 bms, .int .u32 bn, .slice a0 0 cap, .bool true, .bool wh] w fun e w' => e = .returned (.bool true) ∧ Below w.heap.size w w' := by
  go_enter Yba.func3, Yba.ntmps3
  go_wp2_with fail
  go_loop [12, 13, 14] (fun a b i => a = .slice (some ⟨w.heap.size, 0, none⟩) 0 0 ∧ b = .slice (some ⟨w.heap.size + 1, 0, none⟩) 0 0 ∧ i = .int .i64 0) (fun _ _ _ => 0)
  case atStart => exact ⟨rfl, rfl, rfl⟩
  case round =>
  obtain ⟨rfl, rfl, rfl⟩ := hrel
  go_wp2_with fail
  go_loop [18] (fun i => i = .int .i64 1) (fun _ => 0)
  case atStart => rfl
  case round =>
  subst hrel
  go_upto_region 31 with fail
  obtain ⟨w1, hw1⟩ : ∃ w1, w1 = (w.alloc (.cells #[] 9)).alloc (.cells #[] 31) := ⟨_, rfl⟩
  have hb1 : Below w.heap.size w w1 := by
    subst hw1
    exact ((Below.refl _ _).alloc (Nat.le_refl _) _).alloc (by rw [Go.Deep.nblk_alloc]; omega) _
  rw [← hw1]
  have HB : Hid (Below w.heap.size w w1) := hb1
  clear hb1 hw1
  have HT : Hid (Calls Yba.prog 7 #[.agg #[.int .i64 bms, .int .u32 bn, .map none, .bool wh]] (w1.alloc (.cells #[.int .i64 bms, .int .u32 bn] 31)) fun e w' => TokOk bms bn [] (w1.alloc (.cells #[.int .i64 bms, .int .u32 bn] 31)) e w') := token_none bms bn wh _
  go_upto_region 35 with (first | (go_at_call 7; refine HT.out.mono ?_; rintro e w2 ⟨g, c, rfl, ho, hb⟩))
  obtain ⟨⟨e1, e2, e3⟩, e4, e5⟩ := tok_bd ho hb
  have HB2 : Hid (Below w.heap.size w w2) := by
    have b1 : Below w.heap.size w (w1.alloc (.cells #[.int .i64 bms, .int .u32 bn] 31)) := HB.out.alloc HB.out.size _
    exact b1.trans (hb.mono b1.size)
  clear HB HT ho hb
  go_quiet (fail)
  clear e1 e2 e3 e4 e5
  go_wp2_with fail
  go_loop [24] (fun i => i = .int .i64 0) (fun _ => 0)
  case atStart => rfl
  case round =>
  subst hrel
  go_wp2_with fail
  go_loop [25] (fun i => i = .int .i64 0) (fun _ => 0)
  case atStart => rfl
  case round =>
  subst hrel
  go_wp2_with fail
  go_ret
  exact ⟨rfl, below_drewN HB2.out _⟩
end Go.Proofs.Ybulkcydq
