import Derived.Test.YbulkcxwqFmtTrip
import Derived.Test.YbulkcxwqFmtCards
import Derived.ProofKit
import Derived.OpenShut
import Derived.ShutString
import Derived.ChangeOld
import Derived.Below
import Derived.Stop.JoinedTold
import Derived.SizedLaws
import Derived.SevenToldRow
namespace Go.Proofs.YbulkcxwqFmt
open Go.ChangeShapes Go.WideShapes Go.ChangeAt Go.RowKit
open Go.ChangeMaps (open_string shut_string)
open Go.Extern.Stop Go.Stop Go.Extern
set_option linter.unusedVariables false

namespace TripLaw
theorem own : ownKnob Ybaf.prog.godebug = none := by kernel_rfl
theorem laidOut : laidOutB Ybaf.prog = true := by kernel_rfl

/-- A slice of bytes that came in. -/
def IsBytes (w : World) (a : Option Addr) (len cap : Nat) : Prop :=
  len ≤ cap ∧ cap ≤ 9223372036854775807 ∧ (a = none → len = 0 ∧ cap = 0) ∧ ∃ zs : List Int, len ≤ zs.length ∧ ∀ k, k ≤ len → Lib.BytesIn w a k (zs.take k)

theorem isBytes_open {H : Type} {enc : TypeId × Value → H} {W : World} {fuel : Nat} {sp : Nat → Bool} {held : Bool} {base : Nat} {a : Option Addr} {len cap : Nat} {x : DataW H × List MemPlace}
    (hsp : ∀ b, sp b = true) (hf : DataW.trod enc Ybaf.prog W base sp held fuel 22 (Value.slice a len cap).cells.toList = some x) : IsBytes W a len cap := by
  rcases open_ints Ybaf.underlying22 Ybaf.underlying5 (by kernel_rfl) hf with ⟨hcs, _⟩ | ⟨y, l, c, zs, hcs, _, hl, hm, hz, _, hcell, hwz⟩
  · simp [Value.cells] at hcs
    obtain ⟨rfl, rfl, rfl⟩ := hcs
    exact ⟨by omega, by omega, fun _ => ⟨rfl, rfl⟩, [], by simp, fun k hk hp => by omega⟩
  · simp [Value.cells] at hcs
    obtain ⟨rfl, rfl, rfl⟩ := hcs
    have hz' : zs.length = cap := by simpa [hsp] using hz
    refine ⟨hl, by unfold maxLen at hm; omega, fun h => by simp at h, zs, by omega, fun k hk hp => ?_⟩
    obtain ⟨g, o, spot⟩ := y
    have hspot : spot = none := by simpa [Addr.add] using World.cell?_spot (hcell 0 (by omega))
    subst hspot
    refine ⟨g, o, rfl, fun i hi => ?_⟩
    have h := hcell i (by omega)
    rw [show (⟨g, o, none⟩ : Addr).add i = ⟨g, o + i, none⟩ from by unfold Addr.add; split <;> simp_all] at h
    rw [h]
    simp [hi]

theorem rt_all (F : Interp) (hi : Int) (a1 a2 : Option Addr) (len1 cap1 len2 cap2 : Nat) (nm : ByteArray) (w : World) (hF : F.answers w.tape) (hhi : (Lit.int .u8 hi).wf = true) (h1 : IsBytes w a1 len1 cap1) (h2 : IsBytes w a2 len2 cap2) :
    Calls Ybaf.prog 4 #[.int .u8 hi, .slice a1 len1 cap1, .slice a2 len2 cap2, .string nm] w fun e w' => e = .returned (.bool true) ∧ Below w.heap.size w w' := by
  obtain ⟨l1, m1, n1, z1, y1, b1⟩ := h1
  obtain ⟨l2, m2, n2, z2, y2, b2⟩ := h2
  have hb := bounds_u8 hhi
  obtain ⟨n, rfl⟩ : ∃ n : Nat, hi = n := ⟨hi.toNat, by omega⟩
  by_cases hl : len2 ≤ 65536
  · exact rt_any F n a1 a2 len1 cap1 len2 cap2 (z1.take (min len1 4095)) (z2.take len2) nm w hF (by omega) hl (by omega) l1 m1 (by simp; omega) (by simp; omega) (b1 _ (Nat.min_le_left _ _)) (b2 _ (Nat.le_refl _)) n1 n2
  · exact rt_long n a1 a2 len1 cap1 len2 cap2 nm w (by omega) (by omega)

set_option maxRecDepth 100000 in
theorem lifted (os : Os) (started : os.Started) (H : Type) (enc : TypeId × Value → H) :
    ReturnsInTold none {} Ybaf.checked os 4 .any Input.okWide ((OpenSpec.ofChange Rows.lawS4969ARoundTripSpec).preRow enc Ybaf.prog Ybaf.f4 Rows.lawS4969ARoundTripRow.domain false []) (fun F => ((OpenSpec.ofChange Rows.lawS4969ARoundTripSpec).at F).post enc Ybaf.prog Ybaf.f4 false true false false) (aloneAtReturn Ybaf.prog) nothingAlways := by
  refine returnsInTold_of_row (C := Ybaf.checked) (s := OpenSpec.ofChange Rows.lawS4969ARoundTripSpec) (by kernel_rfl) own started (by kernel_rfl) Ybaf.func4
    (OpenSpec.witness_stopped (enc := enc) (C := Ybaf.checked) false ⟨#[], #[.int .u8 0, .slice none 0 0, .slice none 0 0, .string ⟨#[]⟩], []⟩ 8 (by kernel_rfl) (by kernel_rfl) (by kernel_rfl) (by kernel_rfl)) ?_
  intro F W base args ds gs before _ hF hval0 hW _ _ hsz _ _
  have hval : ∀ (j : Nat) t v, Ybaf.f4.params[j]? = some t → args[j]? = some v → Value.okWide Ybaf.prog W .any base t v := hval0
  have hW' := hW
  obtain ⟨p, q, hA0, hV, rfl, hfz, hnd⟩ := hW
  have hA : DataW.TrodAll enc Ybaf.prog W 0 (fun _ => true) true Ybaf.f4.params.toList args.toList ds p := hA0
  rw [Ybaf.params4] at hA hval
  obtain ⟨v0, vs0, d0, ds0, p0, q0, hargs, rfl, rfl, h0, r0⟩ := trodAll_cons hA
  obtain ⟨v1, vs1, d1, ds1, p1, q1, rfl, rfl, rfl, h1, r1⟩ := trodAll_cons r0
  obtain ⟨v2, vs2, d2, ds2, p2, q2, rfl, rfl, rfl, h2, r2⟩ := trodAll_cons r1
  obtain ⟨v3, vs3, d3, ds3, p3, q3, rfl, rfl, rfl, h3, r3⟩ := trodAll_cons r2
  obtain ⟨rfl, rfl, rfl⟩ := trodAll_nil r3
  obtain rfl : args = #[v0, v1, v2, v3] := by cases args; simp_all
  obtain ⟨rfl, rfl⟩ := trodVars_none hV
  obtain ⟨a0, rfl, rfl, rfl, w0⟩ := open_int Ybaf.underlying5 (hval 0 5 v0 rfl rfl) h0
  obtain ⟨a1, len1, cap1, rfl⟩ := okWide_slice Ybaf.underlying22 (hval 1 22 v1 rfl rfl)
  have k1 := h1
  have lt1 : ∀ x ∈ p1, x.block < W.heap.size := by obtain ⟨m, hm⟩ := k1; exact DataW.trod_lt m _ _ _ hm
  have hb1 : IsBytes W a1 len1 cap1 := by obtain ⟨fuel, hf⟩ := h1; exact isBytes_open (fun _ => rfl) hf
  obtain ⟨a2, len2, cap2, rfl⟩ := okWide_slice Ybaf.underlying22 (hval 2 22 v2 rfl rfl)
  have k2 := h2
  have lt2 : ∀ x ∈ p2, x.block < W.heap.size := by obtain ⟨m, hm⟩ := k2; exact DataW.trod_lt m _ _ _ hm
  have hb2 : IsBytes W a2 len2 cap2 := by obtain ⟨fuel, hf⟩ := h2; exact isBytes_open (fun _ => rfl) hf
  obtain ⟨nm, rfl, rfl, rfl, wnm⟩ := open_string Ybaf.underlying9 (hval 3 9 v3 rfl rfl) h3
  clear hA0 hval0
  refine (rt_all F.told a0 a1 a2 len1 cap1 len2 cap2 nm W hF w0 hb1 hb2).mono fun e W' ⟨he, bel⟩ => ?_
  subst he
  exact ⟨_, rfl, _, _, _, [], _, [], hW', trodAll_mk1 (shut_bool Ybaf.underlying4 _), (trodAll_cons_mk (shut_int Ybaf.underlying5 w0) (trodAll_cons_mk (Below.trod laidOut (by kernel_rfl) (of_decide_eq_true (by kernel_rfl)) k1 bel lt1) (trodAll_cons_mk (Below.trod laidOut (by kernel_rfl) (of_decide_eq_true (by kernel_rfl)) k2 bel lt2) (trodAll_cons_mk (shut_string Ybaf.underlying9 wnm) trodAll_mk0)))), rfl, bel.frame _, fun h => by cases h⟩

theorem stops : Ybaf.pinned.checked.prog.stops = ["fmt.errorf"] := by kernel_rfl
theorem stopKnobs : Ybaf.pinned.checked.prog.stopKnobs = [] := by kernel_rfl
theorem quiet (os : Os) : Stop.quiet Ybaf.pinned.checked.prog os := by
  intro k hk
  rw [stopKnobs] at hk
  cases hk

/-- THE STATEMENT: the told card. -/
theorem proved : Rows.LawS4969ARoundTripToldSaid :=
  Claim7.holds_of_told_any 4 Ybaf.f4 "fmt.errorf" [] [] _ _ _ (by kernel_rfl) rfl rfl rfl laidOut (by kernel_rfl) rfl ⟨rfl, rfl, rfl, rfl, rfl, rfl, rfl⟩ rfl rfl (by kernel_rfl) (by kernel_rfl) Ybaf.func4 (by kernel_rfl)
    (of_decide_eq_true (by kernel_rfl)) (by unfold Func.isWrapper; first | (rw [if_pos (by decide +kernel)]; kernel_rfl) | (rw [if_neg (by decide +kernel)]; exact ⟨rfl, rfl⟩)) stops.symm rfl stopKnobs.symm (by kernel_rfl)
    (by kernel_rfl) (by kernel_rfl) (by kernel_rfl) (by kernel_rfl) (by kernel_rfl) (by kernel_rfl) (by kernel_rfl) (by kernel_rfl) (by kernel_rfl) rfl (by kernel_rfl) rfl rfl
    rfl rfl
    rfl (by kernel_rfl) (by kernel_rfl) (by kernel_rfl) (by decide) (by kernel_rfl)
    (OpenClaim.moreEntering_of (by kernel_rfl) (by kernel_rfl) (by kernel_rfl) (by kernel_rfl) (by kernel_rfl) (by kernel_rfl) (by kernel_rfl) (by kernel_rfl) (by kernel_rfl) (by kernel_rfl))
    ⟨_, WideRow.started_initial, quiet _⟩
    (fun os started _ H enc _ => lifted os started H enc)
end TripLaw
end Go.Proofs.YbulkcxwqFmt
