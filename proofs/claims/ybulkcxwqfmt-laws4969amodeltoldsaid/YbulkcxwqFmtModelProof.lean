import Derived.Test.YbulkcxwqFmtModel
import Derived.Test.YbulkcxwqFmtCards
import Derived.ProofKit
import Derived.OpenShut
import Derived.ShutString
import Derived.ChangeOld
import Derived.Below
import Derived.Stop.JoinedTold
import Derived.SizedLaws
import Derived.SevenToldRow
namespace Go.Proofs.YbulkcxwqFmt
open Go.ChangeShapes Go.WideShapes Go.ChangeAt Go.RowKit
open Go.ChangeMaps (open_string shut_string)
open Go.Extern.Stop Go.Stop Go.Extern
set_option linter.unusedVariables false

theorem own : ownKnob Ybaf.prog.godebug = none := by kernel_rfl
theorem laidOut : laidOutB Ybaf.prog = true := by kernel_rfl

/-- A slice of bytes that came in. -/
def IsBytes (w : World) (a : Option Addr) (len cap : Nat) : Prop :=
  len ≤ cap ∧ cap ≤ 9223372036854775807 ∧ (0 < len → ∃ g o, a = some ⟨g, o, none⟩ ∧ ∃ z : Nat → UInt8, ∀ i, i < len → w.cell? ⟨g, o + i, none⟩ = some (.int .u8 ((z i).toNat : Int)))

theorem isBytes_open {H : Type} {enc : TypeId × Value → H} {W : World} {fuel : Nat} {sp : Nat → Bool} {held : Bool} {base : Nat} {a : Option Addr} {len cap : Nat} {x : DataW H × List MemPlace}
    (hsp : ∀ b, sp b = true) (hf : DataW.trod enc Ybaf.prog W base sp held fuel 22 (Value.slice a len cap).cells.toList = some x) : IsBytes W a len cap := by
  rcases open_ints Ybaf.underlying22 Ybaf.underlying5 (by kernel_rfl) hf with ⟨hcs, _⟩ | ⟨y, l, c, zs, hcs, _, hl, hm, hz, _, hcell, hwz⟩
  · simp [Value.cells] at hcs
    obtain ⟨rfl, rfl, rfl⟩ := hcs
    exact ⟨by omega, by omega, fun h => by omega⟩
  · simp [Value.cells] at hcs
    obtain ⟨rfl, rfl, rfl⟩ := hcs
    have hz' : zs.length = cap := by simpa [hsp] using hz
    refine ⟨hl, by unfold maxLen at hm; omega, fun hp => ?_⟩
    obtain ⟨g, o, spot⟩ := y
    have hspot : spot = none := by simpa [Addr.add] using World.cell?_spot (hcell 0 (by omega))
    subst hspot
    have hb : ∀ i, 0 ≤ zs.getD i 0 ∧ zs.getD i 0 ≤ 255 := fun i => by
      by_cases hi : i < zs.length
      · have e : zs.getD i 0 = zs[i] := by simp [List.getD, List.getElem?_eq_getElem hi]
        rw [e]; exact bounds_u8 (hwz _ (List.getElem_mem hi))
      · simp [List.getD, List.getElem?_eq_none (Nat.le_of_not_lt hi)]
    refine ⟨g, o, rfl, fun i => (zs.getD i 0).toNat.toUInt8, fun i hi => ?_⟩
    have h := hcell i (by omega)
    rw [show (⟨g, o, none⟩ : Addr).add i = ⟨g, o + i, none⟩ from by unfold Addr.add; split <;> simp_all] at h
    rw [h]
    have := hb i
    congr 2
    simp only [Nat.toUInt8, UInt8.toNat_ofNat']
    omega

theorem am_any (F : Interp) (a : Option Addr) (len cap : Nat) (nm : ByteArray) (w : World) (hF : F.answers w.tape) (h : IsBytes w a len cap) :
    Calls Ybaf.prog 3 #[.slice a len cap, .string nm] w fun e w' => e = .returned (.bool true) ∧ Below w.heap.size w w' := by
  obtain ⟨h1, h2, h3⟩ := h
  by_cases hl : len < 2
  · exact am_short F a len cap nm w hF hl
  · obtain ⟨g, o, rfl, z, hz⟩ := h3 (by omega)
    by_cases hN : len < 2 + len12 (z 0) (z 1)
    · exact am_over F g o len cap (z 0) (z 1) nm w hF (by omega) (by omega) hN (hz 0 (by omega)) (hz 1 (by omega))
    · exact am_ok g o len cap (z 0) (z 1) (fun i => ((z i).toNat : Int)) nm w (by omega) h1 h2 (by omega) (hz 0 (by omega)) (hz 1 (by omega)) hz

namespace ModelLaw
set_option maxRecDepth 100000 in
theorem lifted (os : Os) (started : os.Started) (H : Type) (enc : TypeId × Value → H) :
    ReturnsInTold none {} Ybaf.checked os 3 .any Input.okWide ((OpenSpec.ofChange Rows.lawS4969AModelSpec).preRow enc Ybaf.prog Ybaf.f3 Rows.lawS4969AModelRow.domain false []) (fun F => ((OpenSpec.ofChange Rows.lawS4969AModelSpec).at F).post enc Ybaf.prog Ybaf.f3 false true false false) (aloneAtReturn Ybaf.prog) nothingAlways := by
  refine returnsInTold_of_row (C := Ybaf.checked) (s := OpenSpec.ofChange Rows.lawS4969AModelSpec) (by kernel_rfl) own started (by kernel_rfl) Ybaf.func3
    (OpenSpec.witness_stopped (enc := enc) (C := Ybaf.checked) false ⟨#[], #[.slice none 0 0, .string ⟨#[]⟩], []⟩ 8 (by kernel_rfl) (by kernel_rfl) (by kernel_rfl) (by kernel_rfl)) ?_
  intro F W base args ds gs before _ hF hval0 hW _ _ hsz _ _
  have hval : ∀ (j : Nat) t v, Ybaf.f3.params[j]? = some t → args[j]? = some v → Value.okWide Ybaf.prog W .any base t v := hval0
  have hW' := hW
  obtain ⟨p, q, hA0, hV, rfl, hfz, hnd⟩ := hW
  have hA : DataW.TrodAll enc Ybaf.prog W 0 (fun _ => true) true Ybaf.f3.params.toList args.toList ds p := hA0
  rw [Ybaf.params3] at hA hval
  obtain ⟨v0, vs0, d0, ds0, p0, q0, hargs, rfl, rfl, h0, r0⟩ := trodAll_cons hA
  obtain ⟨v1, vs1, d1, ds1, p1, q1, rfl, rfl, rfl, h1, r1⟩ := trodAll_cons r0
  obtain ⟨rfl, rfl, rfl⟩ := trodAll_nil r1
  obtain rfl : args = #[v0, v1] := by cases args; simp_all
  obtain ⟨rfl, rfl⟩ := trodVars_none hV
  obtain ⟨a0, len0, cap0, rfl⟩ := okWide_slice Ybaf.underlying22 (hval 0 22 v0 rfl rfl)
  have k0 := h0
  have lt0 : ∀ x ∈ p0, x.block < W.heap.size := by obtain ⟨m, hm⟩ := k0; exact DataW.trod_lt m _ _ _ hm
  have hb0 : IsBytes W a0 len0 cap0 := by obtain ⟨fuel, hf⟩ := h0; exact isBytes_open (fun _ => rfl) hf
  obtain ⟨nm, rfl, rfl, rfl, wnm⟩ := open_string Ybaf.underlying9 (hval 1 9 v1 rfl rfl) h1
  clear hA0 hval0
  refine (am_any F.told a0 len0 cap0 nm W hF hb0).mono fun e W' ⟨he, bel⟩ => ?_
  subst he
  exact ⟨_, rfl, _, _, _, [], _, [], hW', trodAll_mk1 (shut_bool Ybaf.underlying4 _), (trodAll_cons_mk (Below.trod laidOut (by kernel_rfl) (of_decide_eq_true (by kernel_rfl)) k0 bel lt0) (trodAll_cons_mk (shut_string Ybaf.underlying9 wnm) trodAll_mk0)), rfl, bel.frame _, fun h => by cases h⟩

theorem stops : Ybaf.pinned.checked.prog.stops = ["fmt.errorf"] := by kernel_rfl
theorem stopKnobs : Ybaf.pinned.checked.prog.stopKnobs = [] := by kernel_rfl
theorem quiet (os : Os) : Stop.quiet Ybaf.pinned.checked.prog os := by
  intro k hk
  rw [stopKnobs] at hk
  cases hk

/-- THE STATEMENT: the told card. -/
theorem proved : Rows.LawS4969AModelToldSaid :=
  Claim7.holds_of_told_any 3 Ybaf.f3 "fmt.errorf" [] [] _ _ _ (by kernel_rfl) rfl rfl rfl laidOut (by kernel_rfl) rfl ⟨rfl, rfl, rfl, rfl, rfl, rfl, rfl⟩ rfl rfl (by kernel_rfl) (by kernel_rfl) Ybaf.func3 (by kernel_rfl)
    (of_decide_eq_true (by kernel_rfl)) (by unfold Func.isWrapper; first | (rw [if_pos (by decide +kernel)]; kernel_rfl) | (rw [if_neg (by decide +kernel)]; exact ⟨rfl, rfl⟩)) stops.symm rfl stopKnobs.symm (by kernel_rfl)
    (by kernel_rfl) (by kernel_rfl) (by kernel_rfl) (by kernel_rfl) (by kernel_rfl) (by kernel_rfl) (by kernel_rfl) (by kernel_rfl) (by kernel_rfl) rfl (by kernel_rfl) rfl rfl
    rfl rfl
    rfl (by kernel_rfl) (by kernel_rfl) (by kernel_rfl) (by decide) (by kernel_rfl)
    (OpenClaim.moreEntering_of (by kernel_rfl) (by kernel_rfl) (by kernel_rfl) (by kernel_rfl) (by kernel_rfl) (by kernel_rfl) (by kernel_rfl) (by kernel_rfl) (by kernel_rfl) (by kernel_rfl))
    ⟨_, WideRow.started_initial, quiet _⟩
    (fun os started _ H enc _ => lifted os started H enc)
#print axioms proved
end ModelLaw
end Go.Proofs.YbulkcxwqFmt
