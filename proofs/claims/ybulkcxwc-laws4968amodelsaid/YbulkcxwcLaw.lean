import Derived.Test.YbulkcxwcInv
namespace Go.Proofs.Ybulkcxwc
open Go.RowKit

def Z31 : Array Value := (.slice none 0 0 :: (List.replicate 65 (.int .i64 0) ++ List.replicate 265 (.int .u64 0) ++ List.replicate 42 (.int .i64 0) ++ List.replicate 2 (.int .u64 0))).toArray
theorem zero31a : (Yba.prog.info? 31).map (·.zero) = some (some (.agg Z31)) := by kernel_rfl
theorem Z31_size : Z31.size = 375 := by kernel_rfl
theorem Z31_0 : Z31[0]? = some (.slice none 0 0) := by kernel_rfl
theorem zero31 (w : World) : (zeroValue 31).run Yba.prog w = .ok (.agg Z31) w := by
  have h := zero31a
  cases hq : Yba.prog.info? 31 with
  | none => rw [hq] at h; cases h
  | some i =>
    rw [hq] at h
    have hz : i.zero = some (.agg Z31) := by simpa using h
    simp [zeroValue, typeInfo, hq, hz]
theorem info22 : (Yba.prog.info? 22).map (·.size) = some 21 := by kernel_rfl
theorem info22' (c : Ctx) : (Yba.prog.info? 22).map (·.size) = some (cells c).toArray.size := by rw [cells_size]; exact info22
theorem info22'' (c : Ctx) : (Yba.prog.info? 22).map (·.size) = some (cells c).length := by rw [cells_length]; exact info22
theorem Yba.info3 : (Yba.prog.info? 3).map (fun i => (i.zero, i.size, i.bytes)) = some (some (.int .i64 0), 1, 8) := by kernel_rfl

theorem range1 (w : World) (c : Ctx) (Z : Array Value) : ((w.alloc (.cells (cells c).toArray 22)).alloc (.cells Z 31)).rangeAt w.heap.size 0 (cells c) := fun j v hv => by
  rw [Nat.zero_add, cell_of_row _ _ j _ 22 (0, 0) (heap_alloc2_old _ _ _)]; simpa using hv
theorem there1 (w : World) (c : Ctx) : ((w.alloc (.cells (cells c).toArray 22)).alloc (.cells Z31 31)).there (w.heap.size + 1) 331 (cells c).toArray.size := fun j hj => by
  rw [cells_size] at hj
  have hb := heap_alloc2_new w (.cells (cells c).toArray 22) (.cells Z31 31)
  constructor
  · rw [cell_of_row _ _ _ _ 31 (0, 0) hb, Array.getElem?_eq_getElem (by rw [Z31_size]; omega)]; rfl
  · exact frozen_of_row _ _ _ _ 31 hb

/-- One append in the first loop: what becomes of the world. -/
theorem push {w : World} {c : Ctx} {D : Array Value} {wr w1 : World} {v v' : Value} {n : Nat} {xs ys : List Value} {o : Obj} (hi : Inv w c D wr)
    (hown : wr.ownsRow (w.heap.size + 2) 3 1 v n xs) (hown' : w1.ownsRow (w.heap.size + 2) 3 1 v' (n + 1) ys) (hg : (wr.alloc o).grownBy w1 v.ownBlock) :
    Inv w c D w1 ∧ Inv w c (D.setIfInBounds 0 v') (w1.setCell ⟨w.heap.size + 1, 0, none⟩ v') ∧ (w1.setCell ⟨w.heap.size + 1, 0, none⟩ v').ownsRow (w.heap.size + 2) 3 1 v' (n + 1) ys ∧ (D.setIfInBounds 0 v')[0]? = some v' := by
  have h1 : Inv w c D w1 := (hi.alloc o).grown hg (ownBlock_le hown)
  exact ⟨h1, h1.set 0 v' (by omega), ownsRow_setCell_below hown' (by simp) v', Array.getElem?_setIfInBounds_self_of_lt (by rw [h1.dsz]; omega)⟩

theorem own_some {w : World} {N n cap : Nat} {ao : Option Addr} {xs : List Value} (h : w.ownsRow N 3 1 (.slice ao (cnt 20) cap) n xs) : ∃ g, ao = some ⟨g, 0, none⟩ := by
  rcases h.2 with ⟨h1, _⟩ | ⟨g, cap', _, hv, _⟩
  · injection h1 with _ h2; simp [cnt] at h2
  · injection hv with h1; exact ⟨g, h1⟩
theorem own_cap {w : World} {N n cap g : Nat} {xs : List Value} (h : w.ownsRow N 3 1 (.slice (some ⟨g, 0, none⟩) (cnt 20) cap) n xs) : 22 ≤ cap ∧ cap ≤ 9223372036854775807 := by
  rcases h.2 with ⟨h1, _⟩ | ⟨g', cap', _, hv, _, _, h4, h5, _⟩
  · cases h1
  · injection hv with h1 h2 h3
    subst h3
    have : cnt 20 = 22 := rfl
    unfold maxLen at h5; omega
theorem own_cell {w : World} {N cap g : Nat} (h : w.ownsRow N 3 1 (.slice (some ⟨g, 0, none⟩) (cnt 20) cap) (cnt 20) (shv (cnt 20))) (i : Nat) (hi : i < 22) : w.cell? ⟨g, i, none⟩ = some (.int .i64 (sh i)) := by
  rw [h.cellAt i (by simpa [cnt] using hi)]
  exact shv_get (cnt 20) i hi (by decide)
theorem own_drewN {w : World} {N n : Nat} {v : Value} {xs : List Value} (h : w.ownsRow N 3 1 v n xs) (q : Nat) : (w.drewN q).ownsRow N 3 1 v n xs := by
  induction q with
  | zero => exact h
  | succ q ih => exact ih
theorem Yba.cells2 : Yba.prog.cellsOf 2 = 1 := by kernel_rfl
theorem guard22 : Yba.prog.eqGuardType Yba.prog.depth 22 = false := by kernel_rfl
theorem plain2 : Yba.prog.plainKey 2 = true := by kernel_rfl
theorem eqItems_same (c : Ctx) (d : Nat) (w : World) : ∀ is : List Nat, (∀ i ∈ is, i < 21) → (Op.eqItems (d + 1) 2 (Yba.prog.cellsOf 2) (cells c).toArray (cells c).toArray is).run Yba.prog w = .ok true w
  | [], _ => by simp [Op.eqItems]
  | i :: is, h => by
    have hp := run_part_plain (P := Yba.prog) w plain2 (xs := (cells c).toArray) (off := i) (v := .int .i64 (c.a i)) (by simpa using cells_get c i (h i (by simp)))
    have ih := eqItems_same c d w is (fun j hj => h j (by simp [hj]))
    have he := run_equalIn_int (P := Yba.prog) w d 2 .i64 .i64 (c.a i) (c.a i) Yba.underlying2
    rw [Yba.cells2] at ih ⊢
    simp [Op.eqItems, hp, he, ih]
theorem arr_eq (c : Ctx) (w : World) : (Op.equalIn 10000 22 (.agg (cells c).toArray) (.agg (cells c).toArray)).run Yba.prog w = .ok true w := by
  obtain ⟨i2, hi2⟩ : ∃ i, Yba.prog.info? 2 = some i := by
    cases hq : Yba.prog.info? 2 with
    | none => have h := Yba.cells2; rw [Program.cellsOf, hq] at h; cases h
    | some i => exact ⟨i, rfl⟩
  rw [run_equalIn_array w 9999 _ _ Yba.underlying22 hi2]
  exact eqItems_same c 9998 w _ (fun i hi => by simpa using hi)
theorem inv_range331 {w : World} {c : Ctx} {D : Array Value} {wr : World} (hI : Inv w c D wr) : wr.rangeAt (w.heap.size + 1) 331 (cells c) := fun j v hv => by
  have hj : j < 21 := by have := (List.getElem?_eq_some_iff.1 hv).1; rwa [cells_length] at this
  rw [hI.cellD, hI.ang j hj, ← cells_get c j hj]; exact hv
theorem inv_range0 {w : World} {c : Ctx} {D : Array Value} {wr : World} (hI : Inv w c D wr) : wr.rangeAt w.heap.size 0 (cells c) := fun j v hv => by
  rw [Nat.zero_add, cell_of_row _ _ j _ 22 (0, 0) hI.box]; simpa using hv
theorem want1 (k : Nat) (h : k < 4) : ((sh k : Nat) : Int) = (k : Int) + 1 := by
  have : ∀ k, k < 4 → sh k = k + 1 := by decide
  rw [this k h]; omega
theorem want2 (k : Nat) (h : 4 ≤ k) (h' : k < 14) : ((sh k : Nat) : Int) = (k : Int) := by
  have : ∀ k, k < 14 → 4 ≤ k → sh k = k := by decide
  rw [this k h' h]
theorem want3 (k : Nat) (h : 14 ≤ k) (h' : k < 22) : ((sh k : Nat) : Int) = (k : Int) - 1 := by
  have : ∀ k, k < 22 → 14 ≤ k → sh k = k - 1 := by decide
  rw [this k h' h]; omega
theorem zstep_i (c : Ctx) (m s : Nat) (k : Int) (hs : sh m = s) (hk : k = s) (w : World) :
    Calls Yba.prog 5 #[.int .i64 (sx c m), .int .i64 (sy c m), .int .i64 (sz c m), .int .u64 k, .int .i64 (c.a s), .bool c.vec] w fun e w' => e = .returned (.tuple #[.int .i64 (sx c (m + 1)), .int .i64 (sy c (m + 1)), .int .i64 (sz c (m + 1))]) ∧ w' = w := by
  subst hk; exact zstep_m c m s hs w
theorem reps4 (r : Nat) (h : r < 2) : sh (cnt 3 + r) = 4 := by
  rcases (show r = 0 ∨ r = 1 by omega) with rfl | rfl <;> rfl
theorem reps13 (r : Nat) (h : r < 2) : sh (cnt 12 + r) = 13 := by
  rcases (show r = 0 ∨ r = 1 by omega) with rfl | rfl <;> rfl
theorem steps_store {w : World} {c : Ctx} {D : Array Value} {wr : World} {v : Value} {n k : Nat} {xs : List Value} (hI : Inv w c D wr) (hDv : D[0]? = some v) (hst : ∀ i, i < k → D[1 + i]? = some (.int .i64 (cnt i)))
    (hown : wr.ownsRow (w.heap.size + 2) 3 1 v n xs) (hk : k < 100) :
    Inv w c (D.setIfInBounds (1 + k) (.int .i64 (cnt k))) (wr.setCell ⟨w.heap.size + 1, 1 + k, none⟩ (.int .i64 (cnt k))) ∧ (D.setIfInBounds (1 + k) (.int .i64 (cnt k)))[0]? = some v ∧
      (∀ i, i < k + 1 → (D.setIfInBounds (1 + k) (.int .i64 (cnt k)))[1 + i]? = some (.int .i64 (cnt i))) ∧ (wr.setCell ⟨w.heap.size + 1, 1 + k, none⟩ (.int .i64 (cnt k))).ownsRow (w.heap.size + 2) 3 1 v n xs := by
  refine ⟨hI.set _ _ (by omega), by rw [Array.getElem?_setIfInBounds_ne (by omega)]; exact hDv, fun i hi => ?_, ownsRow_setCell_below hown (by simp) _⟩
  by_cases e : i = k
  · subst e; exact Array.getElem?_setIfInBounds_self_of_lt (by rw [hI.dsz]; omega)
  · rw [Array.getElem?_setIfInBounds_ne (by omega)]; exact hst i (by omega)

theorem wpList_push {ops : Array Oper} {rest : List Oper} {o : Oper} {a : Act} {Q : Exit → Act → World → Prop} {w : World} {c : Ctx} {D : Array Value} {wr : World} {v : Value} {n : Nat} {xs : List Value} (hgd : o.guard = none) (s x : Operand)
    (ho : o.op = .call { callee := .builtin .append, args := #[s, x], argTypes := #[23, 23] }) (hs : a.eval s = v) (ad : Nat) (hx : a.eval x = .slice (some ⟨ad, 0, none⟩) 1 1) (had : ad = wr.heap.size) (k : Int)
    (hi : Inv w c D wr) (hDv : D[0]? = some v) (hown : wr.ownsRow (w.heap.size + 2) 3 1 v n xs) (hn : n < 22)
    (h : ∀ g cap w1, w1.cell? ⟨w.heap.size + 1, 0, none⟩ = some v → w1.frozen? ⟨w.heap.size + 1, 0, none⟩ = false →
      (Inv w c (D.setIfInBounds 0 (.slice (some ⟨g, 0, none⟩) (n + 1) cap)) (w1.setCell ⟨w.heap.size + 1, 0, none⟩ (.slice (some ⟨g, 0, none⟩) (n + 1) cap)) ∧ (w1.setCell ⟨w.heap.size + 1, 0, none⟩ (.slice (some ⟨g, 0, none⟩) (n + 1) cap)).ownsRow (w.heap.size + 2) 3 1 (.slice (some ⟨g, 0, none⟩) (n + 1) cap) (n + 1) (xs ++ [.int .i64 k]) ∧ (D.setIfInBounds 0 (.slice (some ⟨g, 0, none⟩) (n + 1) cap))[0]? = some (.slice (some ⟨g, 0, none⟩) (n + 1) cap)) →
      wpList Yba.prog ops Q rest (a.put o.dst (.slice (some ⟨g, 0, none⟩) (n + 1) cap)) w1) : wpList Yba.prog ops Q (o :: rest) a (wr.alloc (.cells #[.int .i64 k] 3)) := by
  subst had
  obtain ⟨i0, hi0, hz0, hz1, hz2⟩ := info_parts Yba.info3
  have hsz := hi.size
  refine wpList_append_own _ hgd s x 23 ho (w.heap.size + 2) 3 i0 (.int .i64 0) 1 8 Yba.underlying23 hi0 hz0 hz1 hz2 rfl (by decide) v n xs hs (hown.alloc _) ⟨wr.heap.size, 0, none⟩ 1 1 [.int .i64 k] hx rfl (cell_one_new _ _ _) (by simp [Value.oneCell']) (by unfold maxLen; omega) (by omega) (by simp; omega) ?_
  intro v' w1 ho' hg _
  obtain ⟨p1, p2⟩ := push hi hown ho' hg
  obtain ⟨g, cap, hv⟩ : ∃ g cap, v' = .slice (some ⟨g, 0, none⟩) (n + 1) cap := by
    rcases ho'.2 with ⟨_, h0⟩ | ⟨g, cap, _, hv, _⟩
    · omega
    · exact ⟨g, cap, hv⟩
  subst hv
  exact h g cap w1 (by rw [p1.cellD]; exact hDv) (p1.froD 0) p2

set_option maxRecDepth 100000 in
set_option maxHeartbeats 1000000 in
theorem walk (c : Ctx) (h : c.Ok) (nb : Int) (w : World) (h0 : 0 ≤ nb) (h1 : nb ≤ 255) :
    Calls Yba.prog 3 #[.int .i64 (sx c 0), .int .i64 (sy c 0), .int .i64 (sz c 0), .int .u8 nb, .bool c.vec, .agg (cells c).toArray] w fun e w' =>
      e = .returned (.bool true) ∧ Below w.heap.size w w' := by
  obtain ⟨n, hn⟩ : ∃ n : Nat, 7 + nb % 14 = (n : Int) := ⟨(7 + nb % 14).toNat, by omega⟩
  have h7 : 7 ≤ n := by omega
  have h20 : n ≤ 20 := by omega
  have hz := zero31
  obtain ⟨D0, hI0, hD0⟩ := inv_start w c Z31 Z31_size Z31_0
  go_enter Yba.func3, Yba.ntmps3
  go_wp2_with (first | (refine wpList_load_mid rfl 22 (.tmp 11) rfl w.heap.size 0 rfl (cells c) _ (range1 w c Z31) Yba.underlying22 rfl (info22'' c) ?_) | (refine wpList_store_mid rfl 22 (.tmp 34) (.tmp 33) rfl (w.heap.size + 1) 331 (cells c).toArray rfl rfl (there1 w c) (info22' c) (cells_one c) ?_))
  go_loopw [15] (fun i wr => ∃ (j : Nat) (ao : Option Addr) (cap : Nat) (D : Array Value), j ≤ 20 ∧ i = .int .i64 (j + 1) ∧ Inv w c D wr ∧ D[0]? = some (.slice ao (cnt j) cap) ∧ wr.ownsRow (w.heap.size + 2) 3 1 (.slice ao (cnt j) cap) (cnt j) (shv (cnt j))) (fun i _ => 21 - (intOf i).toNat)
  case atStart => exact ⟨0, none, 0, D0, by omega, rfl, hI0, hD0, World.ownsRow_nil _ _ _ _⟩
  case round =>
    obtain ⟨j, ao, cap, D, hj, rfl, hI, hDv, hown⟩ := hrel
    by_cases hlt : j < 20
    · have hcv : wr.cell? ⟨w.heap.size + 1, 0, none⟩ = some (.slice ao (cnt j) cap) := by rw [hI.cellD]; exact hDv
      have hcl := cnt_lt j hlt
      have ha0 := shv_snoc (cnt j) (j + 1) hcl (sh_cnt j hlt)
      have HA : Hid (shv (cnt j) ++ [.int .i64 ((j + 1 : Nat) : Int)] = shv (cnt j + 1)) := ha0
      clear ha0
      by_cases h4 : j = 3
      · subst h4
        go_wp2_with (first
          | (at_builtin; refine wpList_push rfl (.tmp 40) (.tmp 42) rfl rfl _ rfl rfl 4 hI hDv hown hcl ?_; intro g1 cap1 w1 hc1 hf1 R1)
          | (at_builtin; refine wpList_push rfl (.tmp 52) (.tmp 54) rfl rfl _ rfl (by simp [World.setCell]) 4 R1.1 R1.2.2 R1.2.1 (by decide) ?_; intro g2 cap2 w2 hc2 hf2 R2))
        go_roundw
        case rel => exact ⟨4, some ⟨g2, 0, none⟩, cap2, _, by omega, by go_num, R2.1, R2.2.2, R2.2.1⟩
        case measure => simp [intOf]
      by_cases h13 : j = 12
      · subst h13
        go_wp2_with (first
          | (at_builtin; refine wpList_push rfl (.tmp 40) (.tmp 42) rfl rfl _ rfl rfl 13 hI hDv hown hcl ?_; intro g1 cap1 w1 hc1 hf1 R1)
          | (at_builtin; refine wpList_push rfl (.tmp 52) (.tmp 54) rfl rfl _ rfl (by simp [World.setCell]) 13 R1.1 R1.2.2 R1.2.1 (by decide) ?_; intro g2 cap2 w2 hc2 hf2 R2))
        go_roundw
        case rel => exact ⟨13, some ⟨g2, 0, none⟩, cap2, _, by omega, by go_num, R2.1, R2.2.2, R2.2.1⟩
        case measure => simp [intOf]
      have e4 : ((j : Int) + 1 == 4) = false := beq_eq_false_iff_ne.2 (by omega)
      have e13 : ((j : Int) + 1 == 13) = false := beq_eq_false_iff_ne.2 (by omega)
      go_wp2_with (first
        | (at_builtin; refine wpList_push rfl (.tmp 40) (.tmp 42) rfl rfl _ rfl rfl (j + 1) hI hDv hown hcl ?_; intro g1 cap1 w1 hc1 hf1 R1))
      go_roundw
      case rel => exact ⟨j + 1, some ⟨g1, 0, none⟩, cap1, _, by omega, by go_num, R1.1, by rw [cnt_succ j hlt h4 h13]; exact R1.2.2, by rw [cnt_succ j hlt h4 h13, ← HA.out]; exact R1.2.1⟩
      case measure => simp [intOf]; omega
    · obtain rfl : j = 20 := by omega
      clear hlt hj hz hI0 hD0
      obtain ⟨g, rfl⟩ : ∃ g, ao = some ⟨g, 0, none⟩ := own_some hown
      go_wp2_with fail
      go_loopw [16] (fun i wr => ∃ (k : Nat) (D : Array Value), k ≤ 21 ∧ i = .int .i64 k ∧ Inv w c D wr ∧ D[0]? = some (.slice (some ⟨g, 0, none⟩) (cnt 20) cap) ∧ (∀ i, i < k → D[1 + i]? = some (.int .i64 (cnt i))) ∧ wr.ownsRow (w.heap.size + 2) 3 1 (.slice (some ⟨g, 0, none⟩) (cnt 20) cap) (cnt 20) (shv (cnt 20))) (fun i _ => 21 - (intOf i).toNat)
      case atStart => exact ⟨0, D, by omega, rfl, hI, hDv, fun i hi => by omega, hown⟩
      case round =>
        clear hI hDv hown
        obtain ⟨k, D, hk, rfl, hI, hDv, hst, hown⟩ := hrel
        by_cases hlt : k < 21
        · obtain ⟨old, hold⟩ : ∃ old, wr.cell? ⟨w.heap.size + 1, 1 + k, none⟩ = some old := by
            rw [hI.cellD, Array.getElem?_eq_getElem (by rw [hI.dsz]; omega)]; exact ⟨_, rfl⟩
          have hfr := hI.froD (1 + k)
          have R := steps_store hI hDv hst hown (by omega)
          rcases (show k < 4 ∨ (4 ≤ k ∧ k < 13) ∨ 13 ≤ k by omega) with h4 | h4 | h4
          · have hc : ((cnt k : Nat) : Int) = k := by unfold cnt; (repeat' split) <;> omega
            rw [hc] at R
            clear hc hst hDv hown
            go_wp2_with fail
            go_roundw
            case rel => exact ⟨k + 1, _, by omega, by go_num, R⟩
            case measure => simp [intOf]; omega
          · have hc : ((cnt k : Nat) : Int) = k + 1 := by unfold cnt; (repeat' split) <;> omega
            rw [hc] at R
            clear hc hst hDv hown
            go_wp2_with fail
            go_roundw
            case rel => exact ⟨k + 1, _, by omega, by go_num, R⟩
            case measure => simp [intOf]; omega
          · have hc : ((cnt k : Nat) : Int) = k + 1 + 1 := by unfold cnt; (repeat' split) <;> omega
            rw [hc] at R
            clear hc hst hDv hown
            go_wp2_with fail
            go_roundw
            case rel => exact ⟨k + 1, _, by omega, by go_num, R⟩
            case measure => simp [intOf]; omega
        · obtain rfl : k = 21 := by omega
          go_wp2_with fail
          refine (turn_any c h (w.heap.size + 1) g n cap _ h7 h20 (own_cap hown).1 (own_cap hown).2 (fun i hi => by rw [hI.cellD]; exact hI.ang i hi) (fun i hi => by rw [hI.cellD]; exact hst i hi) (by rw [hI.cellD]; exact hDv) (fun i hi => own_cell hown i hi)).mono ?_
          rintro e w' ⟨rfl, q, rfl⟩
          replace hI := hI.drewN q
          replace hown := own_drewN hown q
          generalize wr.drewN q = w2 at *
          go_wp2_with fail
          go_loop [21, 22, 23, 24] (fun x y z i => ∃ j : Nat, j ≤ n ∧ i = .int .i64 (j + 1) ∧ x = .int .i64 (sx c (cnt j)) ∧ y = .int .i64 (sy c (cnt j)) ∧ z = .int .i64 (sz c (cnt j))) (fun _ _ _ i => n + 1 - (intOf i).toNat)
          case atStart => exact ⟨0, by omega, rfl, rfl, rfl, rfl⟩
          case round =>
            obtain ⟨j, hj, rfl, rfl, rfl, rfl⟩ := hrel
            by_cases hlt : j < n
            · have hca := hI.cellA (j + 1) (by omega)
              by_cases h4 : j = 3
              · subst h4
                go_wp2_with fail
                go_loop [21, 22, 23, 26] (fun x y z i => ∃ r : Nat, r ≤ 2 ∧ i = .int .i64 r ∧ x = .int .i64 (sx c (cnt 3 + r)) ∧ y = .int .i64 (sy c (cnt 3 + r)) ∧ z = .int .i64 (sz c (cnt 3 + r))) (fun _ _ _ i => 2 - (intOf i).toNat)
                case atStart => exact ⟨0, by omega, rfl, rfl, rfl, rfl⟩
                case round =>
                  obtain ⟨r, hr, rfl, rfl, rfl, rfl⟩ := hrel
                  by_cases hrl : r < 2
                  · go_wp2_with (go_at_call 5; refine (zstep_m c (cnt 3 + r) 4 (reps4 r hrl) _).mono ?_; rintro e w' ⟨rfl, rfl⟩)
                    go_round
                    case rel => exact ⟨r + 1, by omega, by go_num, rfl, rfl, rfl⟩
                    case measure => simp [intOf]; omega
                  · obtain rfl : r = 2 := by omega
                    go_wp2_with fail
                    go_round
                    case rel => exact ⟨4, by omega, by go_num, rfl, rfl, rfl⟩
                    case measure => simp [intOf]; omega
              by_cases h13 : j = 12
              · subst h13
                go_wp2_with fail
                go_loop [21, 22, 23, 26] (fun x y z i => ∃ r : Nat, r ≤ 2 ∧ i = .int .i64 r ∧ x = .int .i64 (sx c (cnt 12 + r)) ∧ y = .int .i64 (sy c (cnt 12 + r)) ∧ z = .int .i64 (sz c (cnt 12 + r))) (fun _ _ _ i => 2 - (intOf i).toNat)
                case atStart => exact ⟨0, by omega, rfl, rfl, rfl, rfl⟩
                case round =>
                  obtain ⟨r, hr, rfl, rfl, rfl, rfl⟩ := hrel
                  by_cases hrl : r < 2
                  · go_wp2_with (go_at_call 5; refine (zstep_m c (cnt 12 + r) 13 (reps13 r hrl) _).mono ?_; rintro e w' ⟨rfl, rfl⟩)
                    go_round
                    case rel => exact ⟨r + 1, by omega, by go_num, rfl, rfl, rfl⟩
                    case measure => simp [intOf]; omega
                  · obtain rfl : r = 2 := by omega
                    go_wp2_with fail
                    go_round
                    case rel => exact ⟨13, by omega, by go_num, rfl, rfl, rfl⟩
                    case measure => simp [intOf]; omega
              have e4 : ((j : Int) + 1 == 4) = false := beq_eq_false_iff_ne.2 (by omega)
              have e13 : ((j : Int) + 1 == 13) = false := beq_eq_false_iff_ne.2 (by omega)
              go_wp2_with fail
              go_loop [21, 22, 23, 26] (fun x y z i => ∃ r : Nat, r ≤ 1 ∧ i = .int .i64 r ∧ x = .int .i64 (sx c (cnt j + r)) ∧ y = .int .i64 (sy c (cnt j + r)) ∧ z = .int .i64 (sz c (cnt j + r))) (fun _ _ _ i => 1 - (intOf i).toNat)
              case atStart => exact ⟨0, by omega, rfl, rfl, rfl, rfl⟩
              case round =>
                obtain ⟨r, hr, rfl, rfl, rfl, rfl⟩ := hrel
                by_cases hrl : r < 1
                · obtain rfl : r = 0 := by omega
                  go_wp2_with (go_at_call 5; refine (zstep_i c (cnt j) (j + 1) _ (sh_cnt j (by omega)) (by omega) _).mono ?_; rintro e w' ⟨rfl, rfl⟩)
                  go_round
                  case rel => exact ⟨1, by omega, by go_num, rfl, rfl, rfl⟩
                  case measure => simp [intOf]
                · obtain rfl : r = 1 := by omega
                  have hcs := cnt_succ j (by omega) h4 h13
                  go_wp2_with fail
                  go_round
                  case rel => exact ⟨j + 1, by omega, by go_num, by rw [hcs], by rw [hcs], by rw [hcs]⟩
                  case measure => simp [intOf]; omega
            · obtain rfl : j = n := by omega
              have hne := arr_eq c
              have hgd : Yba.prog.eqGuardType Yba.prog.depth 22 = false := guard22
              have hr1 := inv_range331 hI
              have hr2 := inv_range0 hI
              have hcv : w2.cell? ⟨w.heap.size + 1, 0, none⟩ = some (.slice (some ⟨g, 0, none⟩) 22 cap) := by rw [hI.cellD]; exact hDv
              go_wp2_with (first | (refine wpList_load_mid rfl 22 (.tmp 117) rfl (w.heap.size + 1) 331 rfl (cells c) _ hr1 Yba.underlying22 rfl (info22'' c) ?_) | (refine wpList_load_mid rfl 22 (.tmp 11) rfl w.heap.size 0 rfl (cells c) _ hr2 Yba.underlying22 rfl (info22'' c) ?_))
              go_loop [27] (fun i => ∃ k : Nat, k ≤ 22 ∧ i = .int .i64 k) (fun i => 22 - (intOf i).toNat)
              case atStart => exact ⟨0, by omega, rfl⟩
              case round =>
                obtain ⟨k, hk, rfl⟩ := hrel
                by_cases hkl : k < 22
                · have hce := own_cell hown k hkl
                  rcases (show k < 4 ∨ (4 ≤ k ∧ k < 14) ∨ 14 ≤ k by omega) with h4 | h4 | h4
                  · rw [want1 k h4] at hce
                    go_wp2_with fail
                    go_round
                    case rel => exact ⟨k + 1, by omega, by go_num⟩
                    case measure => simp [intOf]; omega
                  · rw [want2 k h4.1 h4.2] at hce
                    go_wp2_with fail
                    go_round
                    case rel => exact ⟨k + 1, by omega, by go_num⟩
                    case measure => simp [intOf]; omega
                  · rw [want3 k h4 hkl] at hce
                    go_wp2_with fail
                    go_round
                    case rel => exact ⟨k + 1, by omega, by go_num⟩
                    case measure => simp [intOf]; omega
                · obtain rfl : k = 22 := by omega
                  go_wp2_with fail
                  go_ret
                  exact ⟨rfl, hI.below⟩
end Go.Proofs.Ybulkcxwc
