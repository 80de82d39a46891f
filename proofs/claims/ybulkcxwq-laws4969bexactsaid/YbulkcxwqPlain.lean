import Derived.Test.YbulkcxwqLeaf
import Derived.Lib.EndianZ
namespace Go.Proofs.Ybulkcxwq

def nv (a : Nat) (l : List Int) : Nat := l.foldl (fun v c => v * 256 + c.toNat) a
theorem nv_add (l : List Int) (a : Nat) : nv a l = a * 256 ^ l.length + nv 0 l := by
  induction l generalizing a with
  | nil => simp [nv]
  | cons c t ih =>
    have h1 : nv a (c :: t) = nv (a * 256 + c.toNat) t := rfl
    have h2 : nv 0 (c :: t) = nv c.toNat t := by show nv (0 * 256 + c.toNat) t = _; rw [Nat.zero_mul, Nat.zero_add]
    rw [h1, h2, ih, ih c.toNat, List.length_cons, Nat.pow_succ, Nat.add_mul, Nat.mul_assoc, Nat.mul_comm 256]
    omega
theorem foldmod (l : List Int) (a b : Nat) (h : a % 18446744073709551616 = b % 18446744073709551616) (hb : b < 18446744073709551616) : l.foldl (fun v c => (v * 256 + c.toNat) % 18446744073709551616) b = nv a l % 18446744073709551616 := by
  induction l generalizing a b with
  | nil => simp [nv]; omega
  | cons c t ih =>
    rw [List.foldl_cons]
    exact ih (a * 256 + c.toNat) ((b * 256 + c.toNat) % 18446744073709551616) (by omega) (Nat.mod_lt _ (by decide))
theorem fold_nv (l : List Int) : fold64 l = nv 0 l % 18446744073709551616 := foldmod l 0 0 rfl (by decide)
theorem nv_lt (l : List Int) (h : ∀ z ∈ l, z ≤ 255) : nv 0 l < 256 ^ l.length := by
  induction l with
  | nil => simp [nv]
  | cons c t ih =>
    have h2 : nv 0 (c :: t) = nv c.toNat t := by show nv (0 * 256 + c.toNat) t = _; rw [Nat.zero_mul, Nat.zero_add]
    have hc := h c (by simp)
    have ht := ih (fun z hz => h z (by simp [hz]))
    rw [h2, nv_add, List.length_cons, Nat.pow_succ]
    have : c.toNat ≤ 255 := by omega
    have : c.toNat * 256 ^ t.length ≤ 255 * 256 ^ t.length := Nat.mul_le_mul_right _ this
    omega
theorem be_nv (l : List Int) (a : Nat) (h : ∀ z ∈ l, 0 ≤ z) : Lib.beFromZ a l = nv a l := by
  induction l generalizing a with
  | nil => rfl
  | cons c t ih =>
    have hc := h c (by simp)
    have h2 : nv a (c :: t) = nv (a * 256 + c.toNat) t := rfl
    rw [h2, Lib.beFromZ, ← ih _ (fun z hz => h z (by simp [hz]))]
    congr 1; omega
/-- The last eight bytes, zeros ahead of them, spell the number. -/
theorem last8 (l : List Int) (h : ∀ z ∈ l, 0 ≤ z ∧ z ≤ 255) : ((fold64 l : Nat) : Int) = Lib.beZ (List.replicate (8 - l.length) 0 ++ l.drop (l.length - 8)) := by
  have hr : ∀ (n : Nat) (l : List Int), nv 0 (List.replicate n 0 ++ l) = nv 0 l := fun n l => by
    induction n with
    | zero => rfl
    | succ n ih => rw [List.replicate_succ, List.cons_append]; exact ih
  have hbe : ∀ l : List Int, (∀ z ∈ l, 0 ≤ z) → Lib.beZ l = nv 0 l := fun l h => be_nv l 0 h
  rw [hbe _ (fun z hz => by
    rcases List.mem_append.1 hz with h1 | h1
    · have := List.eq_of_mem_replicate h1; omega
    · exact (h z (List.mem_of_mem_drop h1)).1), hr, fold_nv]
  congr 1
  have hlt : nv 0 (l.drop (l.length - 8)) < 256 ^ (l.drop (l.length - 8)).length := nv_lt _ (fun z hz => (h z (List.mem_of_mem_drop hz)).2)
  have hle : 256 ^ (l.drop (l.length - 8)).length ≤ 256 ^ 8 := Nat.pow_le_pow_right (by decide) (by simp; omega)
  have hsp : nv 0 l = nv (nv 0 (l.take (l.length - 8))) (l.drop (l.length - 8)) := by
    conv => lhs; rw [← List.take_append_drop (l.length - 8) l]
    exact List.foldl_append ..
  rw [hsp, nv_add]
  by_cases h8 : 8 ≤ l.length
  · rw [show (l.drop (l.length - 8)).length = 8 by simp; omega] at *
    omega
  · rw [show l.length - 8 = 0 by omega] at *
    simp only [List.take_zero, List.drop_zero] at *
    simp only [nv, List.foldl_nil, Nat.zero_mul, Nat.zero_add] at *
    omega
end Go.Proofs.Ybulkcxwq
