import Derived.WalkKit
import Derived.WalkSpells
import Derived.Below
import Derived.OpenShut
namespace Go.Proofs.YbulkcxwcDoor
open Go.RowKit

/-! ### The digits -/
/-- The remainder after k digits. -/
def fr (F f0 : Nat) : Nat → Nat
  | 0 => f0
  | k + 1 => 10 * fr F f0 k % F
/-- The k-th digit. -/
def dg (F f0 k : Nat) : Nat := 10 * fr F f0 k / F
theorem fr_lt {F f0 : Nat} (h : f0 < F) : ∀ k, fr F f0 k < F
  | 0 => h
  | k + 1 => Nat.mod_lt _ (by omega)
theorem dg_le {F f0 : Nat} (h : f0 < F) (k : Nat) : dg F f0 k ≤ 9 := by
  have := fr_lt h k
  unfold dg
  rw [Nat.le_iff_lt_add_one, Nat.div_lt_iff_lt_mul (by omega)]
  omega
theorem fr_dvd (n f0 : Nat) : ∀ k, k ≤ n → 2 ^ k ∣ fr (2 ^ n) f0 k
  | 0, _ => by simp
  | k + 1, h => by
    have ih := fr_dvd n f0 k (by omega)
    show 2 ^ (k + 1) ∣ 10 * fr (2 ^ n) f0 k % 2 ^ n
    refine (Nat.dvd_mod_iff (Nat.pow_dvd_pow 2 h)).2 ?_
    obtain ⟨c, hc⟩ := ih
    exact ⟨5 * c, by rw [hc, Nat.pow_succ, show (10 : Nat) = 2 * 5 from rfl]; simp only [Nat.mul_comm, Nat.mul_left_comm, Nat.mul_assoc]⟩
theorem fr_stays {F f0 k : Nat} (h : fr F f0 k = 0) : ∀ j, fr F f0 (k + j) = 0
  | 0 => h
  | j + 1 => by show 10 * fr F f0 (k + j) % F = 0; rw [fr_stays h j]; simp
theorem fr_end (n f0 : Nat) (h : f0 < 2 ^ n) (k : Nat) (hk : n ≤ k) : fr (2 ^ n) f0 k = 0 := by
  have h0 : fr (2 ^ n) f0 n = 0 := Nat.eq_zero_of_dvd_of_lt (fr_dvd n f0 n (Nat.le_refl _)) (fr_lt h n)
  have := fr_stays h0 (k - n)
  rwa [show n + (k - n) = k by omega] at this

/-- nd digits are written. -/
def IsNd (places : Int) (F f0 nd : Nat) : Prop := (∀ j, j < nd → (j : Int) < places ∧ fr F f0 j ≠ 0) ∧ ¬ ((nd : Int) < places ∧ fr F f0 nd ≠ 0)
theorem isNd_unique {places : Int} {F f0 a b : Nat} (ha : IsNd places F f0 a) (hb : IsNd places F f0 b) : a = b := by
  rcases Nat.lt_trichotomy a b with h | h | h
  · exact absurd (hb.1 a h) ha.2
  · exact h
  · exact absurd (ha.1 b h) hb.2
theorem isNd_le {places : Int} {n f0 k : Nat} (h : f0 < 2 ^ n) (hk : ∀ j, j < k → (j : Int) < places ∧ fr (2 ^ n) f0 j ≠ 0) : k ≤ n := by
  by_cases hc : k ≤ n
  · exact hc
  · exact absurd (fr_end n f0 h n (Nat.le_refl _)) (hk n (by omega)).2

def digs (F f0 nd : Nat) : List Nat := (List.range nd).map (dg F f0)
theorem digs_length (F f0 nd : Nat) : (digs F f0 nd).length = nd := by simp [digs]
theorem digs_get (F f0 nd i : Nat) (h : i < nd) : (digs F f0 nd)[i]? = some (dg F f0 i) := by simp [digs, h]
theorem digs_succ (F f0 nd : Nat) : digs F f0 (nd + 1) = digs F f0 nd ++ [dg F f0 nd] := by simp [digs, List.range_succ]
theorem digs_le {F f0 : Nat} (h : f0 < F) (nd : Nat) : ∀ d ∈ digs F f0 nd, d ≤ 9 := by
  intro d hd; simp only [digs, List.mem_map] at hd; obtain ⟨i, _, rfl⟩ := hd; exact dg_le h i

/-! ### Rounding up -/
def rup : List Nat → List Nat × Bool
  | [] => ([], true)
  | d :: r => if (rup r).2 then (if d < 9 then ((d + 1) :: (rup r).1, false) else (0 :: (rup r).1, true)) else (d :: (rup r).1, false)
theorem rup_nines : ∀ m, rup (List.replicate m 9) = (List.replicate m 0, true)
  | 0 => rfl
  | m + 1 => by simp [List.replicate_succ, rup, rup_nines m]
theorem rup_hit (d m : Nat) (hd : d < 9) : ∀ l : List Nat, rup (l ++ d :: List.replicate m 9) = (l ++ (d + 1) :: List.replicate m 0, false)
  | [] => by simp [rup, rup_nines, hd]
  | x :: l => by simp [rup, rup_hit d m hd l]
theorem rup_length : ∀ l : List Nat, (rup l).1.length = l.length
  | [] => rfl
  | d :: r => by
    have ih := rup_length r
    unfold rup
    split
    · split <;> simp [ih]
    · simp [ih]
theorem rup_le : ∀ l : List Nat, (∀ d ∈ l, d ≤ 9) → ∀ d ∈ (rup l).1, d ≤ 9
  | [], _ => by simp [rup]
  | x :: r, h => by
    have ih := rup_le r (fun d hd => h d (by simp [hd]))
    have hx := h x (by simp)
    unfold rup
    split
    · split
      · intro d hd; simp at hd; rcases hd with rfl | hd
        · omega
        · exact ih d hd
      · intro d hd; simp at hd; rcases hd with rfl | hd
        · omega
        · exact ih d hd
    · intro d hd; simp at hd; rcases hd with rfl | hd
      · exact hx
      · exact ih d hd

/-- Are nd digits of f0/F rounded up? -/
def upB (F f0 whole nd : Nat) : Bool :=
  decide (F < 2 * fr F f0 nd) || (decide (F = 2 * fr F f0 nd) && decide ((if nd = 0 then whole else dg F f0 (nd - 1)) % 2 = 1))
def rdD (F f0 whole nd : Nat) : List Nat := if upB F f0 whole nd then (rup (digs F f0 nd)).1 else digs F f0 nd
def rdW (F f0 whole nd : Nat) : Nat := if upB F f0 whole nd && (rup (digs F f0 nd)).2 then whole + 1 else whole
theorem rdD_length (F f0 whole nd : Nat) : (rdD F f0 whole nd).length = nd := by unfold rdD; split <;> simp [rup_length, digs_length]
theorem rdD_le {F f0 : Nat} (h : f0 < F) (whole nd : Nat) : ∀ d ∈ rdD F f0 whole nd, d ≤ 9 := by
  unfold rdD; split
  · exact rup_le _ (digs_le h nd)
  · exact digs_le h nd

/-- The trailing zeros are dropped: m digits stay. -/
def IsTrim (l : List Nat) (m : Nat) : Prop := m ≤ l.length ∧ (∀ j, m ≤ j → j < l.length → l.getD j 0 = 0) ∧ (m = 0 ∨ l.getD (m - 1) 0 ≠ 0)
theorem isTrim_unique {l : List Nat} {a b : Nat} (ha : IsTrim l a) (hb : IsTrim l b) : a = b := by
  rcases Nat.lt_trichotomy a b with h | h | h
  · rcases hb.2.2 with h0 | h0
    · omega
    · exact absurd (ha.2.1 (b - 1) (by omega) (by have := hb.1; omega)) h0
  · exact h
  · rcases ha.2.2 with h0 | h0
    · omega
    · exact absurd (hb.2.1 (a - 1) (by omega) (by have := ha.1; omega)) h0

/-- The bytes that are written. -/
def outB (neg : Bool) (whole : Nat) (dec : List UInt8) (ds : List Nat) : List UInt8 :=
  (if neg && (whole != 0 || !ds.isEmpty) then [45] else []) ++ dec ++ (if ds.isEmpty then [] else 46 :: ds.map fun d => (48 + d).toUInt8)

end Go.Proofs.YbulkcxwcDoor
