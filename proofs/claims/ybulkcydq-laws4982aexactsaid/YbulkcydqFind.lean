import Derived.Test.YbulkcydqRows
import Derived.WalkKit
import Derived.WalkSpells
import Derived.Deep.QuietTactic
import Derived.BigQuiet
import Derived.Deep.RegionWith
import Derived.OpenShut
import Derived.Deep.DeepCutAuto
namespace Go.Proofs.Ybulkcydq
open Go.RowKit

theorem find_any (g n cap : Nat) (N : Nat → List UInt8) (s : List UInt8) (w : World) (hmax : n ≤ 1024) (hc : ∀ i, i < n → w.cell? ⟨g, i, none⟩ = some (.string ⟨(N i).toArray⟩)) :
    Calls Yba.prog 6 #[.slice (some ⟨g, 0, none⟩) n cap, .string ⟨s.toArray⟩] w fun e w' => w' = w ∧ ((e = .returned (.int .i64 (-1)) ∧ ∀ i, i < n → N i ≠ s) ∨ ∃ j : Nat, j < n ∧ N j = s ∧ e = .returned (.int .i64 j)) := by
  have HC : Hid (∀ i, i < n → w.cell? ⟨g, i, none⟩ = some (.string ⟨(N i).toArray⟩)) := hc
  clear hc
  have hni : (n : Int) ≤ 1024 := by omega
  go_enter Yba.func6, Yba.ntmps6
  go_wp2_with fail
  go_loop [5] (fun i => ∃ j : Nat, j ≤ n ∧ i = .int .i64 j ∧ ∀ k, k < j → N k ≠ s) (fun i => n - (intOf i).toNat)
  case atStart => exact ⟨0, by omega, rfl, by omega⟩
  case round =>
    obtain ⟨j, hj, rfl, hne⟩ := hrel
    have HNE : Hid (∀ k, k < j → N k ≠ s) := hne
    clear hne
    by_cases hjn : j < n
    · have q := HC.out j hjn
      have hj1 : (j : Int) < (n : Int) := by omega
      by_cases hxs : N j = s
      · have HX : Hid (N j = s) := hxs
        rw [hxs] at q
        clear hxs
        go_wp2_with fail
        go_ret
        exact ⟨rfl, .inr ⟨j, hjn, HX.out, rfl⟩⟩
      · have hb : (N j == s) = false := by simpa using hxs
        go_wp2_with fail
        refine ⟨⟨j + 1, by omega, by go_num, fun k hk => ?_⟩, by simp [intOf]; omega⟩
        by_cases e : k = j
        · rw [e]; exact hxs
        · exact HNE.out k (by omega)
    · obtain rfl : j = n := by omega
      go_wp2_with fail
      go_ret
      exact ⟨rfl, .inl ⟨rfl, HNE.out⟩⟩
end Go.Proofs.Ybulkcydq
