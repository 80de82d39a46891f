import Derived.Test.YbulkcxwcLeaf
import Derived.Deep.QuietTactic
import Derived.BigQuiet
namespace Go.Proofs.Ybulkcxwc
open Go.RowKit

/-- The shifts of the steps, in order. -/
def shl : List Nat := [1, 2, 3, 4, 4, 5, 6, 7, 8, 9, 10, 11, 12, 13, 13, 14, 15, 16, 17, 18, 19, 20]
def sh (m : Nat) : Nat := shl.getD m 0
/-- How many of them are at most k. -/
def cnt (k : Nat) : Nat := k + (if 4 ≤ k then 1 else 0) + (if 13 ≤ k then 1 else 0)

structure Ctx where
  a : Nat → Int
  vec : Bool
  x : Int
  y : Int
  z : Int

def St (c : Ctx) : Nat → Int × Int × Int
  | 0 => (c.x, c.y, c.z)
  | m + 1 => (stX (St c m).1 (St c m).2.1 (sh m) (bkB (St c m).2.1 (St c m).2.2 c.vec), stY (St c m).1 (St c m).2.1 (sh m) (bkB (St c m).2.1 (St c m).2.2 c.vec), stZ (St c m).2.2 (c.a (sh m)) (bkB (St c m).2.1 (St c m).2.2 c.vec))
def sx (c : Ctx) (m : Nat) : Int := (St c m).1
def sy (c : Ctx) (m : Nat) : Int := (St c m).2.1
def sz (c : Ctx) (m : Nat) : Int := (St c m).2.2
def sb (c : Ctx) (m : Nat) : Int := dir (bkB (sy c m) (sz c m) c.vec)

structure Ctx.Ok (c : Ctx) : Prop where
  x : In64 c.x
  y : In64 c.y
  z : In64 c.z
  a : ∀ s, In64 (c.a s)

theorem in_sy (c : Ctx) (h : c.Ok) (m : Nat) : In64 (sy c m) := by
  cases m
  · exact h.y
  · exact in64_stY _ _ _ _
theorem in_sz (c : Ctx) (h : c.Ok) (m : Nat) : In64 (sz c m) := by
  cases m
  · exact h.z
  · exact in64_stZ _ _ _
theorem sh_lt (m : Nat) : sh m < 64 := by
  by_cases h : m < 22
  · have : ∀ m, m < 22 → sh m < 64 := by decide
    exact this m h
  · have : shl.length ≤ m := by simp [shl]; omega
    simp [sh, List.getD, List.getElem?_eq_none this]

theorem sh_21 (m : Nat) (h : m < 22) : sh m < 21 := by
  have : ∀ m, m < 22 → sh m < 21 := by decide
  exact this m h
theorem back_m (c : Ctx) (h : c.Ok) (m : Nat) (w : World) :
    Calls Yba.prog 7 #[.int .i64 (sy c m), .int .i64 (sz c m), .bool c.vec] w fun e w' => e = .returned (.int .i64 (sb c m)) ∧ w' = w :=
  back_any _ _ _ w (in_sy c h m) (in_sz c h m)
theorem step_m (c : Ctx) (h : c.Ok) (m s : Nat) (hs : sh m = s) (w : World) :
    Calls Yba.prog 6 #[.int .i64 2, .int .i64 (sx c m), .int .i64 (sy c m), .int .i64 (sz c m), .int .u64 s, .int .i64 (c.a s), .int .i64 (sb c m)] w fun e w' => e = .returned (.tuple #[.int .i64 (sx c (m + 1)), .int .i64 (sy c (m + 1)), .int .i64 (sz c (m + 1))]) ∧ w' = w := by
  subst hs
  exact step_any _ _ _ _ _ _ w (sh_lt m) (in_sy c h m) (h.a _)
theorem zstep_m (c : Ctx) (m s : Nat) (hs : sh m = s) (w : World) :
    Calls Yba.prog 5 #[.int .i64 (sx c m), .int .i64 (sy c m), .int .i64 (sz c m), .int .u64 s, .int .i64 (c.a s), .bool c.vec] w fun e w' => e = .returned (.tuple #[.int .i64 (sx c (m + 1)), .int .i64 (sy c (m + 1)), .int .i64 (sz c (m + 1))]) ∧ w' = w := by
  subst hs
  exact zstep_any _ _ _ _ _ _ w (sh_lt m)

theorem dn {W w : World} {m : Nat} (h : ∃ q, W = w.drewN q) : ∃ q, W.drewN m = w.drewN q := by
  obtain ⟨q, rfl⟩ := h; exact ⟨q + m, World.drewN_drewN ..⟩
theorem quietOf {f : Nat} {args : Array Value} {w : World} {q x : Nat} {v : Value}
    (h : Calls Yba.prog f args (w.drewN (q + x)) fun e w' => e = .returned v ∧ w' = w.drewN (q + x)) :
    Calls Yba.prog f args (w.drewN (q + x)) fun e w'' => e = .returned v ∧ ∃ n, w'' = w.drewN (q + n) :=
  h.mono fun _ _ hh => ⟨hh.1, x, hh.2⟩

set_option maxRecDepth 100000 in
set_option maxHeartbeats 1000000 in
theorem turn_any (c : Ctx) (h : c.Ok) (b B n cap : Nat) (w : World) (hn : 7 ≤ n) (hn' : n ≤ 20) (hcap : 22 ≤ cap) (hcap' : cap ≤ 9223372036854775807)
    (hA : ∀ i, i < 21 → w.cell? ⟨b, 331 + i, none⟩ = some (.int .i64 (c.a i)))
    (hS : ∀ i, i < 21 → w.cell? ⟨b, 1 + i, none⟩ = some (.int .i64 (cnt i)))
    (h0 : w.cell? ⟨b, 0, none⟩ = some (.slice (some ⟨B, 0, none⟩) 22 cap))
    (hB : ∀ i, i < 22 → w.cell? ⟨B, i, none⟩ = some (.int .i64 (sh i))) :
    Calls Yba.prog 4 #[.pointer (some ⟨b, 0, none⟩), .int .i64 (sx c 0), .int .i64 (sy c 0), .int .i64 (sz c 0), .int .i64 n, .bool c.vec] w fun e w' =>
      e = .returned (.tuple #[.int .i64 (sx c (cnt n)), .int .i64 (sy c (cnt n)), .int .i64 (sz c (cnt n))]) ∧ ∃ k, w' = w.drewN k := by
  have a1 : w.cell? ⟨b, 332, none⟩ = some (.int .i64 (c.a 1)) := hA 1 (by omega)
  have a2 : w.cell? ⟨b, 333, none⟩ = some (.int .i64 (c.a 2)) := hA 2 (by omega)
  have a3 : w.cell? ⟨b, 334, none⟩ = some (.int .i64 (c.a 3)) := hA 3 (by omega)
  have a4 : w.cell? ⟨b, 335, none⟩ = some (.int .i64 (c.a 4)) := hA 4 (by omega)
  have a5 : w.cell? ⟨b, 336, none⟩ = some (.int .i64 (c.a 5)) := hA 5 (by omega)
  have a6 : w.cell? ⟨b, 337, none⟩ = some (.int .i64 (c.a 6)) := hA 6 (by omega)
  have a7 : w.cell? ⟨b, 338, none⟩ = some (.int .i64 (c.a 7)) := hA 7 (by omega)
  have s7 : w.cell? ⟨b, 8, none⟩ = some (.int .i64 8) := hS 7 (by omega)
  have sn : w.cell? ⟨b, 1 + n, none⟩ = some (.int .i64 (cnt n)) := hS n (by omega)
  have cn : 8 ≤ cnt n ∧ cnt n ≤ 22 := by unfold cnt; constructor <;> (repeat' split) <;> omega
  go_enter Yba.func4, Yba.ntmps4
  go_wp2
  go_quiet ((first | (go_at_call 7; exact Calls.quiet_of_same (back_m c h 0 _)) | (go_at_call 6; exact Calls.quiet_of_same (step_m c h 0 1 rfl _))))
  go_wp2
  go_quiet ((first | (go_at_call 7; exact quietOf (back_m c h 1 _)) | (go_at_call 6; exact quietOf (step_m c h 1 2 rfl _))))
  go_wp2
  go_quiet ((first | (go_at_call 7; exact quietOf (back_m c h 2 _)) | (go_at_call 6; exact quietOf (step_m c h 2 3 rfl _))))
  go_wp2
  go_quiet ((first | (go_at_call 7; exact quietOf (back_m c h 3 _)) | (go_at_call 6; exact quietOf (step_m c h 3 4 rfl _))))
  go_wp2
  go_quiet ((first | (go_at_call 7; exact quietOf (back_m c h 4 _)) | (go_at_call 6; exact quietOf (step_m c h 4 4 rfl _))))
  go_wp2
  go_quiet ((first | (go_at_call 7; exact quietOf (back_m c h 5 _)) | (go_at_call 6; exact quietOf (step_m c h 5 5 rfl _))))
  go_wp2
  go_quiet ((first | (go_at_call 7; exact quietOf (back_m c h 6 _)) | (go_at_call 6; exact quietOf (step_m c h 6 6 rfl _))))
  go_wp2
  go_quiet ((first | (go_at_call 7; exact quietOf (back_m c h 7 _)) | (go_at_call 6; exact quietOf (step_m c h 7 7 rfl _))))
  go_wp2
  go_quiet (fail)
  go_wp2
  go_loopw [1, 2, 3, 166] (fun x y z i wr => ∃ k q : Nat, 8 + k ≤ cnt n ∧ i = .int .i64 k ∧ x = .int .i64 (sx c (8 + k)) ∧ y = .int .i64 (sy c (8 + k)) ∧ z = .int .i64 (sz c (8 + k)) ∧ wr = w.drewN q) (fun _ _ _ i _ => cnt n - 8 - (intOf i).toNat)
  case atStart => obtain ⟨q, hq⟩ := dn (dn (dn (dn (dn (dn (dn (dn (dn ⟨0, rfl⟩)))))))); exact ⟨0, q, by omega, rfl, rfl, rfl, rfl, hq⟩
  case round =>
    obtain ⟨k, q, hk, rfl, rfl, rfl, rfl, rfl⟩ := hrel
    by_cases hlt : 8 + k < cnt n
    · obtain ⟨s, hs⟩ : ∃ s, s = sh (8 + k) := ⟨_, rfl⟩
      have hs21 : s < 21 := by rw [hs]; exact sh_21 _ (by omega)
      have hb : w.cell? ⟨B, 8 + k, none⟩ = some (.int .i64 s) := by rw [hs]; exact hB _ (by omega)
      have ha : w.cell? ⟨b, 331 + s, none⟩ = some (.int .i64 (c.a s)) := hA s hs21
      have HS : Hid (sh (8 + k) = s) := hs.symm
      clear hs
      go_wp2
      go_quiet ((first | (go_at_call 7; exact quietOf (back_m c h (8 + k) _)) | (go_at_call 6; exact quietOf (step_m c h (8 + k) s HS.out _))))
      go_wp2
      go_roundw
      case rel => exact ⟨k + 1, _, by omega, by go_num, rfl, rfl, rfl, rfl⟩
      case measure => simp [intOf]; omega
    · have hke : cnt n = 8 + k := by omega
      go_wp2
      go_ret3
      exact ⟨by rw [hke]; rfl, _, rfl⟩
end Go.Proofs.Ybulkcxwc
