import Derived.Test.YbulkcxwqFmtRows
import Derived.Test.YbulkcxwqFmtShelf
import Derived.WalkKit
import Derived.WalkSpells
import Derived.Deep.QuietTactic
import Derived.BigQuiet
import Derived.Deep.RegionWith
import Derived.Stop.CallBack
import Derived.Stop.IfaceNil
import GoSem.ClaimData
namespace Go.Proofs.YbulkcxwqFmt
open Go.RowKit Go.Extern.Stop Go.Stop Go.Extern

theorem call9 (args : Array Value) (w : World) : (callFunc 9 args).run Ybaf.prog w = ((FmtStop.errorf #[9, 37] #[24] args).run Ybaf.prog w).andThen fun v w' => .ok (.value v) w' :=
  run_callFunc_extern Ybaf.func9 (by kernel_rfl) (by kernel_rfl) (by kernel_rfl) (by kernel_rfl) args w
theorem guardF (name : String) (w : World) : (FmtStop.guard name).run Ybaf.prog w = .ok () w := by kernel_rfl
/-- The two formats. -/
def fmtA : ByteArray := ⟨#[37, 100, 32, 98, 121, 116, 101, 115, 32, 108, 101, 102, 116, 44, 32, 116, 111, 111, 32, 102, 101, 119, 32, 102, 111, 114, 32, 37, 115]⟩
theorem fmtA0 : FmtStop.printed? ⟨#[37, 100, 32, 98, 121, 116, 101, 115, 32, 108, 101, 102, 116, 44, 32, 116, 111, 111, 32, 102, 101, 119, 32, 102, 111, 114, 32, 37, 115]⟩ 2 = some [(0, 100, false), (1, 115, false)] := by kernel_rfl
theorem fmtAr (w : World) : (FmtDoors.printed ⟨#[37, 100, 32, 98, 121, 116, 101, 115, 32, 108, 101, 102, 116, 44, 32, 116, 111, 111, 32, 102, 101, 119, 32, 102, 111, 114, 32, 37, 115]⟩ 2).run Ybaf.prog w = .ok [(0, 100, false), (1, 115, false)] w := by kernel_rfl
def shape9 : List UInt8 := [12, 6, 0, 0, 0, 0, 0, 0, 0, 115, 116, 114, 105, 110, 103]
def shape3 : List UInt8 := [5, 3, 0, 0, 0, 0, 0, 0, 0, 105, 110, 116]
theorem op9w (name : String) (x : ByteArray) (w : World) : (FmtStop.operand name true 115 false (.iface 9 (.string x))).run Ybaf.prog w = .ok (shape9, FmtStop.pack x.data.toList) w := by kernel_rfl
theorem op9 (name : String) (x : ByteArray) (w : World) : (FmtStop.operand name false 115 false (.iface 9 (.string x))).run Ybaf.prog w = .ok (shape9, FmtStop.pack x.data.toList) w := by kernel_rfl
theorem op3w (name : String) (x : Int) (w : World) : (FmtStop.operand name true 100 false (.iface 3 (.int .i64 x))).run Ybaf.prog w = .ok (shape3, Go.Extern.Stop.digits 8 (x % 2 ^ 64).toNat) w := by kernel_rfl
theorem op3 (name : String) (x : Int) (w : World) : (FmtStop.operand name false 100 false (.iface 3 (.int .i64 x))).run Ybaf.prog w = .ok (shape3, Go.Extern.Stop.digits 8 (x % 2 ^ 64).toNat) w := by kernel_rfl
theorem ptr40 (w : World) : (FmtStop.ptrTo "errors.errorString").run Ybaf.prog w = .ok 40 w := by kernel_rfl
theorem elem40 (w : World) : (elemOf 40).run Ybaf.prog w = .ok 42 w := by kernel_rfl

set_option maxHeartbeats 1000000 in
theorem sl_short (F : Interp) (a0 : Option Addr) (len cap : Nat) (nm : ByteArray) (w : World) (hF : F.answers w.tape) (hlen : len < 2) :
    Calls Ybaf.prog 5 #[.slice a0 len cap, .string nm] w fun e w' => (∃ p, e = .returned (.tuple #[.slice none 0 0, .slice none 0 0, .iface 40 (.pointer (some p))])) ∧ Below w.heap.size w w' := by
  have hF' : ∀ i name reading k range, w.tape i (.extern (word name reading k) range) = F name reading k := hF
  have h1 := call9
  have h2 := guardF
  have h3 := fmtA0
  have h4 := fmtAr
  have h5 := op9
  have h6 := op3
  have h7 := ptr40
  have h8 := elem40
  have h9 := op9w
  have h10 := op3w
  go_enter Ybaf.func5, Ybaf.ntmps5
  go_wp2
  go_ret3
  exact ⟨⟨_, rfl⟩, (((Below.refl _ _).alloc (Nat.le_refl _) _).alloc (by simp) _).drew⟩

/-- The length that the two bytes bear. -/
def len12 (b0 b1 : UInt8) : Nat := b0.toNat % 16 * 256 + b1.toNat
theorem len12_lt (b0 b1 : UInt8) : len12 b0 b1 < 4096 := by
  have h1 := b1.toNat_lt
  unfold len12; omega
theorem and4095 (b0 b1 : UInt8) : bits .and .u16 ((Lib.beNat [b0, b1] : Nat) : Int) 4095 = ((len12 b0 b1 : Nat) : Int) := by
  have h0 := b0.toNat_lt
  have h1 := b1.toNat_lt
  have e : Lib.beNat [b0, b1] = b0.toNat * 256 + b1.toNat := by simp [Lib.beNat, Lib.beFrom]
  rw [e]
  have h := u16_and_nat (b0.toNat * 256 + b1.toNat) 4095 (by omega) (by omega)
  have h2 := Nat.and_two_pow_sub_one_eq_mod (b0.toNat * 256 + b1.toNat) 12
  simp at h2
  rw [h2] at h
  rw [show (((b0.toNat * 256 + b1.toNat : Nat)) : Int) = ((b0.toNat * 256 + b1.toNat : Nat) : Int) from rfl]
  refine h.trans ?_
  unfold len12; omega
theorem fmtB0 : FmtStop.printed? ⟨#[37, 115, 32, 37, 100, 44, 32, 98, 117, 116, 32, 37, 100, 32, 98, 121, 116, 101, 115, 32, 102, 111, 108, 108, 111, 119, 32, 105, 116]⟩ 3 = some [(0, 115, false), (1, 100, false), (2, 100, false)] := by kernel_rfl
theorem fmtBr (w : World) : (FmtDoors.printed ⟨#[37, 115, 32, 37, 100, 44, 32, 98, 117, 116, 32, 37, 100, 32, 98, 121, 116, 101, 115, 32, 102, 111, 108, 108, 111, 119, 32, 105, 116]⟩ 3).run Ybaf.prog w = .ok [(0, 115, false), (1, 100, false), (2, 100, false)] w := by kernel_rfl

set_option maxHeartbeats 1000000 in
theorem sl_over (F : Interp) (g o len cap : Nat) (b0 b1 : UInt8) (nm : ByteArray) (w : World) (hF : F.answers w.tape) (hlen : 2 ≤ len) (hmax : len ≤ 9223372036854775807) (hN : len < 2 + len12 b0 b1)
    (c0 : w.cell? ⟨g, o, none⟩ = some (.int .u8 b0.toNat)) (c1 : w.cell? ⟨g, o + 1, none⟩ = some (.int .u8 b1.toNat)) :
    Calls Ybaf.prog 5 #[.slice (some ⟨g, o, none⟩) len cap, .string nm] w fun e w' => (∃ p, e = .returned (.tuple #[.slice none 0 0, .slice none 0 0, .iface 40 (.pointer (some p))])) ∧ Below w.heap.size w w' := by
  have hl := len12_lt b0 b1
  have ha := and4095 b0 b1
  generalize len12 b0 b1 = N at *
  go_enter Ybaf.func5, Ybaf.ntmps5
  go_wp2_with (go_at_call 8; refine (Ybaf.binary_BE_Uint16 g o len cap b0 b1 _ hlen c0 c1).mono ?_; rintro e w1 ⟨rfl, hb1⟩)
  have hF' : ∀ i name reading k range, w1.tape i (.extern (word name reading k) range) = F name reading k := by rw [hb1.tape]; exact hF
  have h1 := call9
  have h2 := guardF
  have h3 := fmtB0
  have h4 := fmtBr
  have h5 := op9
  have h6 := op3
  have h7 := ptr40
  have h8 := elem40
  have h9 := op9w
  have h10 := op3w
  clear c0 c1 hF
  go_wp2
  go_ret3
  exact ⟨⟨_, rfl⟩, ((hb1.alloc hb1.size _).alloc (by have := hb1.size; simp; omega) _).drew⟩

/-- What sizedLoop gives where the loop fits. -/
def SlOk (g o len N : Nat) (w : World) (e : Ending) (w' : World) : Prop :=
  ∃ la lc ra rc, e = .returned (.tuple #[.slice (some la) N lc, .slice (some ra) (len - (2 + N)) rc, .nilIface]) ∧ N ≤ lc ∧ len - (2 + N) ≤ rc ∧ (0 < N → la = ⟨g, o + 2, none⟩) ∧ (0 < len - (2 + N) → ra = ⟨g, o + (2 + N), none⟩) ∧ Below w.heap.size w w'

theorem slret {la ra : Option Addr} {n1 n2 N M lc rc : Nat} (h1 : n1 = N) (h2 : n2 = M) : Ending.returned (.tuple #[.slice la n1 lc, .slice ra n2 rc, .nilIface]) = .returned (.tuple #[.slice la N lc, .slice ra M rc, .nilIface]) := by rw [h1, h2]
set_option maxHeartbeats 1000000 in
theorem sl_ok (g o len cap : Nat) (b0 b1 : UInt8) (nm : ByteArray) (w : World) (hlen : 2 ≤ len) (hcap : len ≤ cap) (hmax : cap ≤ 9223372036854775807) (hN : 2 + len12 b0 b1 ≤ len)
    (c0 : w.cell? ⟨g, o, none⟩ = some (.int .u8 b0.toNat)) (c1 : w.cell? ⟨g, o + 1, none⟩ = some (.int .u8 b1.toNat)) :
    Calls Ybaf.prog 5 #[.slice (some ⟨g, o, none⟩) len cap, .string nm] w fun e w' => SlOk g o len (len12 b0 b1) w e w' := by
  have hl := len12_lt b0 b1
  have ha := and4095 b0 b1
  generalize len12 b0 b1 = N at *
  have fin : ∀ {w1 : World} (nq : Nat), Below w.heap.size w w1 → Below w.heap.size w (w1.drewN nq) := fun {w1} nq h => by
    induction nq with
    | zero => exact h
    | succ q ih => exact ih.drew
  by_cases hc2 : cap = 2
  · obtain rfl : len = 2 := by omega
    obtain rfl : N = 0 := by omega
    subst hc2
    go_enter Ybaf.func5, Ybaf.ntmps5
    go_wp2_with (go_at_call 8; refine (Ybaf.binary_BE_Uint16 g o 2 2 b0 b1 _ hlen c0 c1).mono ?_; rintro e w1 ⟨rfl, hb1⟩)
    go_quiet (fail)
    go_wp2_with fail
    go_ret3
    exact ⟨_, _, _, _, rfl, by omega, by omega, by omega, by omega, fin _ hb1⟩
  by_cases hcN : cap = 2 + N
  · obtain rfl : len = 2 + N := by omega
    subst hcN
    go_enter Ybaf.func5, Ybaf.ntmps5
    go_wp2_with (go_at_call 8; refine (Ybaf.binary_BE_Uint16 g o (2 + N) (2 + N) b0 b1 _ hlen c0 c1).mono ?_; rintro e w1 ⟨rfl, hb1⟩)
    go_quiet (fail)
    go_wp2_with fail
    go_ret3
    exact ⟨_, _, _, _, slret (by omega) (by omega), by omega, by omega, fun _ => rfl, by omega, fin _ hb1⟩
  · go_enter Ybaf.func5, Ybaf.ntmps5
    go_wp2_with (go_at_call 8; refine (Ybaf.binary_BE_Uint16 g o len cap b0 b1 _ hlen c0 c1).mono ?_; rintro e w1 ⟨rfl, hb1⟩)
    go_quiet (fail)
    go_wp2_with fail
    go_ret3
    refine ⟨_, _, _, _, slret (by omega) (by omega), ?_, ?_, fun _ => rfl, fun _ => rfl, fin _ hb1⟩ <;> omega
end Go.Proofs.YbulkcxwqFmt
