import Derived.Test.YbulkcxwcDoorInv
import Derived.Lib.VarintMem
namespace Go.Proofs.YbulkcxwcDoor
open Go.RowKit

set_option maxHeartbeats 400000 in
/-- strconv.AppendUint at base 10. -/
theorem app10 (B n u : Nat) (hu64 : u < 18446744073709551616) (sv : Value) (xs : List Value) (w : World) (hown : w.ownsRow B 5 1 sv n xs) (hBw : B ≤ w.heap.size) (hlim : n + 20 ≤ 140737488355328) (htab : Lib.TabIs Ybad.prog w "internal/strconv.uint64pow10" .u64 Lib.pow10Tab) :
    Calls Ybad.prog 10 #[sv, .int .u64 u, .int .i64 10] w fun e w' => ∃ v', e = .returned v' ∧ w'.ownsRow B 5 1 v' (n + (Lib.decDigits u).length) (xs ++ Lib.byteCells (Lib.decDigits u)) ∧ Below B w w' ∧ Lib.OthersKept 5 none w w' := by
  have HC := Ybad.internal_strconv_AppendUint_10 B n u hu64 sv xs w hown hBw hlim htab
  have HC' : Hid (Calls Ybad.prog 12 #[sv, .int .u64 u, .int .i64 10] w fun e w' => ∃ v', e = .returned v' ∧ w'.ownsRow B 5 1 v' (n + (Lib.decDigits u).length) (xs ++ Lib.byteCells (Lib.decDigits u)) ∧ Below B w w' ∧ Lib.OthersKept 5 none w w') := HC
  clear HC hown htab
  go_enter Ybad.func10, Ybad.ntmps10
  go_wp2_with (go_at_call 12; refine HC'.out.mono ?_; rintro e w' ⟨v', rfl, k1, k2, k3⟩)
  go_ret
  exact ⟨v', rfl, k1, k2, k3⟩

/-- The trailing zeros: what the loop knows. -/
theorem trim_step {l : List Nat} {m d : Nat} (hd : d = l.getD m 0) (h0 : d = 0) (h : ∀ j, m + 1 ≤ j → j < l.length → l.getD j 0 = 0) : ∀ j, m ≤ j → j < l.length → l.getD j 0 = 0 := fun j hj hl => by
  by_cases e : j = m
  · subst e; rw [← hd, h0]
  · exact h j (by omega) hl
def fracB (ds : List Nat) : List UInt8 := ds.map fun d => (48 + d).toUInt8
theorem frac_snoc (l : List Nat) (j : Nat) (hj : j < l.length) (h9 : l.getD j 0 ≤ 9) : Lib.byteCells (fracB (l.take (j + 1))) = Lib.byteCells (fracB (l.take j)) ++ [.int .u8 ((48 + l.getD j 0 : Nat) : Int)] := by
  have e : l.getD j 0 = l[j] := by simp [List.getD, List.getElem?_eq_getElem hj]
  rw [← Lib.byteCells_snoc _ (show 48 + l.getD j 0 < 256 by omega), List.take_succ_eq_append_getElem hj, ← e]
  simp [fracB]
end Go.Proofs.YbulkcxwcDoor
