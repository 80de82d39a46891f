import Derived.Test.YbulkcxwcDoorLaw
import Derived.Test.YbulkcxwcDoorTie
import Derived.Test.YbulkcxwcDoorCards
import Derived.ProofKit
import Derived.LaidMore
import Derived.OpenShut
import Derived.ShutString
import Derived.ChangeOld
import Derived.Below
import Derived.Stop.Joined
import Derived.Lib.LaidTab
import Derived.SevenTiedAt
namespace Go.Proofs.YbulkcxwcDoor
open Go.ChangeShapes Go.WideShapes Go.ChangeAt Go.WideMaps Go.WideElems Go.RowKit
set_option linter.unusedVariables false

theorem own : ownKnob Ybad.prog.godebug = none := by kernel_rfl
theorem laidOut : laidOutB Ybad.prog = true := by kernel_rfl
def laid3 : List (String × DataW Unit) := Rows.lawS4968BModelRow.laid

theorem g0 : Ybad.prog.globalNamed "internal/strconv.uint64pow10" = some 0 := by kernel_rfl
theorem t0 : (Ybad.prog.globals[0]?).map (·.type) = some 48 := by kernel_rfl
theorem Ybad.cells48 : Ybad.prog.cellsOf 48 = 20 := by kernel_rfl
theorem Ybad.cells30 : Ybad.prog.cellsOf 30 = 1 := by kernel_rfl
theorem pow_data : (Rows.laid_internal_strconv_uint64pow10 : DataW Unit) = Lib.tabData .u64 Lib.pow10Tab := by kernel_rfl

/-- The door's own heap meets the condition. -/
theorem door_met (os : Os) (args : Array Value) : laidMetH Ybad.prog laid3 ((World.doorLaid Ybad.prog 400 os).forCall (fun _ _ => 0) ⟨#[], args, []⟩).memory :=
  laidMetH_of_parts3 (fuel := 8) (laidMet_of_run' 8 (by kernel_rfl) (by kernel_rfl)) (by kernel_rfl) (by kernel_rfl)

/-- What the condition gives the walk: the table of powers. -/
theorem of_laid {W : World} (h : laidMetH Ybad.prog laid3 W) : Lib.TabIs Ybad.prog W "internal/strconv.uint64pow10" .u64 Lib.pow10Tab := by
  rw [MakeChecks.laidMetH_plain _ _ _ (by kernel_rfl)] at h
  obtain ⟨ps, ⟨a1, b1, c1, d1, e1, q1, _, _, _, _, ⟨a2, b2, c2, d2, e2, q2, _, _, _, _, ⟨g', t', cs, fuel, p, q, hg', ht', hvar, hd, _, _⟩, _⟩, _⟩, _⟩ := h
  obtain rfl := Option.some.inj (g0.symm.trans hg')
  obtain rfl := Option.some.inj (t0.symm.trans ht')
  rw [pow_data] at hd
  unfold Lib.TabIs
  rw [hvar, ← Lib.cells_of_tab Ybad.underlying48 Ybad.underlying30 Ybad.cells30 Ybad.cells48 hd]

set_option maxRecDepth 100000 in
theorem lifted (os : Os) (started : os.Started) (H : Type) (enc : TypeId × Value → H) :
    ReturnsInHanded {} Ybad.checked os 3 .any (fun w args => (Rows.lawS4968BModelSpec.pre enc Ybad.prog Ybad.f3 [] false w args ∧ laidMetH Ybad.prog laid3 w) ∧ sizedMet enc Ybad.prog Ybad.f3 (OpenSpec.ofChange Rows.lawS4968BModelSpec) false w args)
      (Rows.lawS4968BModelSpec.post enc Ybad.prog Ybad.f3 false true false false) := by
  refine returnsInHanded_of_change_and (C := Ybad.checked) (X := fun w _ => laidMetH Ybad.prog laid3 w) (fun _ _ _ hh h => h.of_heap hh) own started (by kernel_rfl) Ybad.func3
    (ChangeSpec.witness_shaped (enc := enc) (C := Ybad.checked) (os := os) (X := fun w _ => laidMetH Ybad.prog laid3 w) false (World.doorLaid Ybad.prog 400 os) #[.int .u8 0, .int .i64 0, .int .i64 0, .slice none 0 0] 8 rfl (World.shaped_of_RefB (by kernel_rfl) (by kernel_rfl)) (by kernel_rfl) (by kernel_rfl) (by kernel_rfl) (door_met os _)) ?_
  intro W base args ds gs before hval0 hW _ _ hL _
  have hval : ∀ (j : Nat) t v, Ybad.f3.params[j]? = some t → args[j]? = some v → Value.okWide Ybad.prog W .any base t v := hval0
  have hW' := hW
  obtain ⟨p, q, hA0, hV, rfl, hfz, hnd⟩ := hW
  have hA : DataW.TrodAll enc Ybad.prog W 0 (fun _ => true) true Ybad.f3.params.toList args.toList ds p := hA0
  rw [Ybad.params3] at hA hval
  obtain ⟨v0, vs0, d0, ds0, p0, q0, hargs, rfl, rfl, h0, r0⟩ := trodAll_cons hA
  obtain ⟨v1, vs1, d1, ds1, p1, q1, rfl, rfl, rfl, h1, r1⟩ := trodAll_cons r0
  obtain ⟨v2, vs2, d2, ds2, p2, q2, rfl, rfl, rfl, h2, r2⟩ := trodAll_cons r1
  obtain ⟨v3, vs3, d3, ds3, p3, q3, rfl, rfl, rfl, h3, r3⟩ := trodAll_cons r2
  obtain ⟨rfl, rfl, rfl⟩ := trodAll_nil r3
  obtain rfl : args = #[v0, v1, v2, v3] := by cases args; simp_all
  obtain ⟨rfl, rfl⟩ := trodVars_none hV
  obtain ⟨a0, rfl, rfl, rfl, w0⟩ := open_int Ybad.underlying5 (hval 0 5 v0 rfl rfl) h0
  obtain ⟨a1, rfl, rfl, rfl, w1⟩ := open_int Ybad.underlying2 (hval 1 2 v1 rfl rfl) h1
  obtain ⟨a2, rfl, rfl, rfl, w2⟩ := open_int Ybad.underlying3 (hval 2 3 v2 rfl rfl) h2
  obtain ⟨a3, len3, cap3, rfl⟩ := okWide_slice Ybad.underlying22 (hval 3 22 v3 rfl rfl)
  have k3 := h3
  have lt3 : ∀ x ∈ p3, x.block < W.heap.size := by obtain ⟨m, hm⟩ := k3; exact DataW.trod_lt m _ _ _ hm
  obtain ⟨zs, hzl, hin, hmax⟩ : ∃ zs : List Int, zs.length = len3 ∧ Lib.BytesIn W a3 len3 zs ∧ len3 ≤ 9223372036854775807 := by
    obtain ⟨fuel, hf⟩ := h3
    rcases open_ints Ybad.underlying22 Ybad.underlying5 (by kernel_rfl) hf with ⟨hcs, _⟩ | ⟨x, l, c, zs, hcs, _, hl, hm, hz, _, hcell, hwz⟩
    · simp [Value.cells] at hcs
      obtain ⟨rfl, rfl, rfl⟩ := hcs
      exact ⟨[], rfl, Lib.BytesIn.nil _ _ _, by omega⟩
    · simp [Value.cells] at hcs
      obtain ⟨rfl, rfl, rfl⟩ := hcs
      have hz' : zs.length = cap3 := by simpa using hz
      refine ⟨zs.take len3, by simp; omega, Lib.BytesIn.of_cells fun i hi => ?_, by unfold maxLen at hm; omega⟩
      rw [hcell i (by omega)]
      simp [hi]
  have ht := of_laid hL
  clear hA0 hval0
  have b0 := bounds_u8 w0
  have b1 := bounds_i64 w1
  have b2 := bounds_i64 w2
  have key : Calls Ybad.prog 3 #[.int .u8 a0, .int .i64 a1, .int .i64 a2, .slice a3 len3 cap3] W fun e w' => e = .returned (.bool true) ∧ Below W.heap.size W w' := by
    by_cases hl : len3 ≤ 1024
    · exact law_any a0 a1 a2 a3 len3 cap3 zs W b0.1 b0.2 b1.1 b1.2 b2.1 b2.2 hl hzl hin ht
    · exact law_long a0 a1 a2 a3 len3 cap3 W (by omega) hmax
  refine key.mono fun e W' ⟨he, bel⟩ => ?_
  subst he
  exact ⟨_, rfl, _, _, _, [], _, [], hW', trodAll_mk1 (shut_bool Ybad.underlying4 _), (trodAll_cons_mk (shut_int Ybad.underlying5 w0) (trodAll_cons_mk (shut_int Ybad.underlying2 w1) (trodAll_cons_mk (shut_int Ybad.underlying3 w2) (trodAll_cons_mk (Below.trod laidOut (by kernel_rfl) (of_decide_eq_true (by kernel_rfl)) k3 bel lt3) trodAll_mk0)))), rfl, bel.frame _, fun h => by cases h⟩

theorem over : Rows.LawS4968BModelSaid :=
  OpenClaim.holds_of_wide 3 Ybad.f3 rfl rfl rfl rfl rfl rfl rfl ⟨rfl, rfl, rfl, rfl, rfl⟩ rfl rfl rfl rfl rfl (by kernel_rfl) Ybad.func3 (by kernel_rfl)
    (of_decide_eq_true (by kernel_rfl)) (by unfold Func.isWrapper; first | (rw [if_pos (by decide +kernel)]; kernel_rfl) | (rw [if_neg (by decide +kernel)]; exact ⟨rfl, rfl⟩))
    (fun os started H enc _ => lifted os started H enc)

theorem params_plain : ∀ (j : Nat) (t : TypeId), Ybad.f3.params[j]? = some t → Ybad.prog.wantsStandIn t = false := by
  intro j t ht
  rw [Ybad.params3] at ht
  match j, ht with
  | 0, ht => obtain rfl : t = 5 := by simpa using ht.symm
             exact (show Ybad.prog.wantsStandIn 5 = false by kernel_rfl)
  | 1, ht => obtain rfl : t = 2 := by simpa using ht.symm
             exact (show Ybad.prog.wantsStandIn 2 = false by kernel_rfl)
  | 2, ht => obtain rfl : t = 3 := by simpa using ht.symm
             exact (show Ybad.prog.wantsStandIn 3 = false by kernel_rfl)
  | 3, ht => obtain rfl : t = 22 := by simpa using ht.symm
             exact (show Ybad.prog.wantsStandIn 22 = false by kernel_rfl)
  | j + 4, ht => simp at ht

/-- THE STATEMENT: the tied card. -/
theorem proved : Rows.LawS4968BModelCardSaid :=
  Claim7.holds_tied_plain_at .later [] [.data, .data, .data] true (true, "caf51775a5d8454e1b76cfce0fc34537a6e4dcb90af26fb5cd196d36e66d46de") false
    over (fun _ h => by cases h) (by kernel_rfl) (fun _ h => by cases h) lawS4968BModel_row_tie rfl ⟨rfl, rfl⟩ (by kernel_rfl) rfl
    (fun f fn hf hfn => by
      obtain rfl : f = 3 := Option.some.inj ((show Ybad.prog.funcNamed Rows.lawS4968BModelRow.func = some 3 by kernel_rfl).symm.trans hf) |>.symm
      obtain rfl : fn = Ybad.f3 := (Option.some.inj (Ybad.func3.symm.trans hfn)).symm
      exact ⟨by kernel_rfl, fun j t ht => params_plain j t ht⟩)
    (by kernel_rfl)
#print axioms proved
end Go.Proofs.YbulkcxwcDoor
