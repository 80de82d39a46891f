import Derived.Test.YbulkcydqLaw
import Derived.Test.YbulkcydqNil
import Derived.WalkKit
import Derived.ProofKit
import Derived.OpenShut
import Derived.ShutString
import Derived.ChangeOld
import Derived.Below
import Derived.Deep.Strs
namespace Go.Proofs.Ybulkcydq.lawS4982AExact
open Go.ChangeShapes Go.WideShapes Go.ChangeAt Go.RowKit
set_option linter.unusedVariables false

theorem own : ownKnob Yba.prog.godebug = none := by kernel_rfl
theorem laidOut : laidOutB Yba.prog = true := by kernel_rfl
theorem cells29 : Yba.prog.cellsOf 29 = 3 := by kernel_rfl
theorem cells9 : Yba.prog.cellsOf 9 = 1 := by kernel_rfl
theorem cells2 : Yba.prog.cellsOf 2 = 1 := by kernel_rfl
theorem cells22 : Yba.prog.cellsOf 22 = 1 := by kernel_rfl

/-- One entry's cells. -/
theorem open_ent {H : Type} {enc : TypeId × Value → H} {W : World} {sp : Nat → Bool} {held : Bool} {fuel : Nat} {cs : List Value} {x : DataW H × List MemPlace} (h : DataW.trod enc Yba.prog W 0 sp held fuel 29 cs = some x) :
    ∃ p : Ent, cs = [.string ⟨p.1.toArray⟩, .int .i64 p.2.1, .int .u32 p.2.2] ∧ p.1.length ≤ maxLen := by
  obtain ⟨y0, y1, y2, n, _, hl, h0, h1, h2⟩ := Go.Deep.trod_struct3 Yba.underlying29 h
  rw [cells29] at hl
  match cs, hl with
  | [c0, c1, c2], _ =>
    obtain ⟨s, e0, _, hs⟩ := DataW.trod_string Yba.underlying9 h0
    obtain ⟨a, e1, _, _⟩ := DataW.trod_int Yba.underlying2 h1
    obtain ⟨b, e2, _, _⟩ := DataW.trod_int Yba.underlying22 h2
    simp [cells9] at e0
    simp [cells2] at e1
    simp [cells22] at e2
    exact ⟨(s.data.toList, a, b), by simp [e0, e1, e2], by show s.data.toList.length ≤ maxLen; rw [Array.length_toList]; exact hs⟩

/-- The entries that come in. -/
theorem open_in {H : Type} {enc : TypeId × Value → H} {W : World} {sp : Nat → Bool} {held : Bool} {a0 : Option Addr} {len cap : Nat} {d : DataW H} {p : List MemPlace} (h : DataW.Trod enc Yba.prog W 0 sp held 23 (.slice a0 len cap) d p) : ∃ E, InE W a0 len E := by
  obtain ⟨fuel, hf⟩ := h
  rcases Go.Deep.open_slice Yba.underlying23 hf with ⟨hcs, _⟩ | ⟨a, l, c, m, n, D, Pl, hcs, _, hl, hm, hmm, _, hall⟩
  · simp [Value.cells] at hcs
    obtain ⟨rfl, rfl, rfl⟩ := hcs
    exact ⟨fun _ => ([], 0, 0), fun h => by omega⟩
  · simp [Value.cells] at hcs
    obtain ⟨rfl, rfl, rfl⟩ := hcs
    have hlm : len ≤ m := by rw [hmm]; split <;> omega
    have hE : ∀ i, i < len → ∃ p : Ent, p.1.length ≤ maxLen ∧ W.cell? (a.add (i * 3)) = some (.string ⟨p.1.toArray⟩) ∧ W.cell? (a.add (i * 3 + 1)) = some (.int .i64 p.2.1) ∧ W.cell? (a.add (i * 3 + 2)) = some (.int .u32 p.2.2) := fun i hi => by
      obtain ⟨cs', hc, ht⟩ := hall i (by omega)
      obtain ⟨p, rfl, hp⟩ := open_ent ht
      rw [cells29] at hc
      obtain ⟨_, _, hg⟩ := World.cells?_some hc
      have g0 := hg 0 (by omega)
      have g1 := hg 1 (by omega)
      have g2 := hg 2 (by omega)
      rw [Go.Deep.add_add] at g0 g1 g2
      exact ⟨p, hp, g0, g1, g2⟩
    obtain ⟨E, hE⟩ := Go.Deep.choose_lt hE
    refine ⟨E, fun h0 => ?_⟩
    obtain ⟨g, o, spot⟩ := a
    have hspot : spot = none := by simpa [Addr.add] using World.cell?_spot (hE 0 h0).2.1
    subst hspot
    have ha : ∀ j, (⟨g, o, none⟩ : Addr).add j = ⟨g, o + j, none⟩ := fun j => by unfold Addr.add; split <;> simp_all
    refine ⟨g, o, rfl, fun i hi => ?_⟩
    obtain ⟨h1, h2, h3, h4⟩ := hE i hi
    rw [ha] at h2 h3 h4
    exact ⟨h2, h3, h4, h1⟩

theorem walk (bms bn : Int) (a0 : Option Addr) (len cap : Nat) (nm wh : Bool) (E : Nat → Ent) (w : World) (hin : InE w a0 len E) :
    Calls Yba.prog 3 #[.int .i64 bms, .int .u32 bn, .slice a0 len cap, .bool nm, .bool wh] w fun e w' => e = .returned (.bool true) ∧ Below w.heap.size w w' := by
  by_cases hl : len ≤ 1024
  · by_cases hn : (nm && ((len : Int) == 0)) = false
    · exact law_map bms bn a0 len cap nm wh E w hl hn hin
    · have h1 : nm = true ∧ len = 0 := by simpa using hn
      obtain ⟨rfl, rfl⟩ := h1
      exact law_nil bms bn a0 cap wh w
  · exact law_long bms bn a0 len cap nm wh w (by omega)

/-! ### THE ROW's STEP: WRITTEN OUT: LEAVE IT -/
set_option maxRecDepth 100000 in
theorem lifted (os : Os) (started : os.Started) (H : Type) (enc : TypeId × Value → H) :
    ReturnsInHanded {} Yba.checked os 3 .any (Rows.lawS4982AExactSpec.pre6 enc Yba.prog Yba.f3 Rows.lawS4982AExactRow.domain false) (Rows.lawS4982AExactSpec.post enc Yba.prog Yba.f3 false true false false) := by
  refine returnsInHanded_of_change (C := Yba.checked) own started (by kernel_rfl) Yba.func3
    (ChangeSpec.witness6 (enc := enc) (C := Yba.checked) false ⟨#[], #[.int .i64 0, .int .u32 0, .slice none 0 0, .bool false, .bool false], []⟩ 8 (by kernel_rfl) (by kernel_rfl) (by kernel_rfl) (by kernel_rfl)) ?_
  intro W base args ds gs before hval0 hW hcnd _
  have hval : ∀ (j : Nat) t v, Yba.f3.params[j]? = some t → args[j]? = some v → Value.okWide Yba.prog W .any base t v := hval0
  have hW' := hW
  obtain ⟨p, q, hA0, hV, rfl, hfz, hnd⟩ := hW
  have hA : DataW.TrodAll enc Yba.prog W 0 (fun _ => true) true Yba.f3.params.toList args.toList ds p := hA0
  rw [Yba.params3] at hA hval
  obtain ⟨v0, vs0, d0, ds0, p0, q0, hargs, rfl, rfl, h0, r0⟩ := trodAll_cons hA
  obtain ⟨v1, vs1, d1, ds1, p1, q1, rfl, rfl, rfl, h1, r1⟩ := trodAll_cons r0
  obtain ⟨v2, vs2, d2, ds2, p2, q2, rfl, rfl, rfl, h2, r2⟩ := trodAll_cons r1
  obtain ⟨v3, vs3, d3, ds3, p3, q3, rfl, rfl, rfl, h3, r3⟩ := trodAll_cons r2
  obtain ⟨v4, vs4, d4, ds4, p4, q4, rfl, rfl, rfl, h4, r4⟩ := trodAll_cons r3
  obtain ⟨rfl, rfl, rfl⟩ := trodAll_nil r4
  obtain rfl : args = #[v0, v1, v2, v3, v4] := by cases args; simp_all
  obtain ⟨rfl, rfl⟩ := trodVars_none hV
  obtain ⟨a0, rfl, rfl, rfl, w0⟩ := open_int Yba.underlying2 (hval 0 2 v0 rfl rfl) h0
  obtain ⟨a1, rfl, rfl, rfl, w1⟩ := open_int Yba.underlying22 (hval 1 22 v1 rfl rfl) h1
  obtain ⟨a2, len2, cap2, rfl⟩ := okWide_slice Yba.underlying23 (hval 2 23 v2 rfl rfl)
  have k2 := h2
  have lt2 : ∀ x ∈ p2, x.block < W.heap.size := by obtain ⟨m, hm⟩ := k2; exact DataW.trod_lt m _ _ _ hm
  obtain ⟨E, hE⟩ := open_in h2
  obtain ⟨a3, rfl, rfl, rfl⟩ := open_bool Yba.underlying4 (hval 3 4 v3 rfl rfl) h3
  obtain ⟨a4, rfl, rfl, rfl⟩ := open_bool Yba.underlying4 (hval 4 4 v4 rfl rfl) h4
  clear hA0 hval0
  refine (walk a0 a1 a2 len2 cap2 a3 a4 E W hE).mono fun e W' ⟨he, bel⟩ => ?_
  subst he
  exact ⟨_, rfl, _, _, _, [], _, [], hW', trodAll_mk1 (shut_bool Yba.underlying4 _), (trodAll_cons_mk (shut_int Yba.underlying2 w0) (trodAll_cons_mk (shut_int Yba.underlying22 w1) (trodAll_cons_mk (Below.trod laidOut (by kernel_rfl) (of_decide_eq_true (by kernel_rfl)) k2 bel lt2) (trodAll_cons_mk (shut_bool Yba.underlying4 _) (trodAll_cons_mk (shut_bool Yba.underlying4 _) trodAll_mk0))))), rfl, bel.frame _, fun h => by cases h⟩

theorem over : Rows.lawS4982AExactRow.holds Yba.pinned (OpenSpec.ofChange Rows.lawS4982AExactSpec) :=
  OpenClaim.holds_of_wide 3 Yba.f3 rfl rfl rfl rfl rfl rfl rfl ⟨rfl, rfl, rfl, rfl, rfl⟩ rfl rfl rfl rfl rfl (by kernel_rfl) Yba.func3 (by kernel_rfl)
    (of_decide_eq_true (by kernel_rfl)) (by unfold Func.isWrapper; first | (rw [if_pos (by decide +kernel)]; kernel_rfl) | (rw [if_neg (by decide +kernel)]; exact ⟨rfl, rfl⟩))
    (fun os started H enc _ => lifted os started H enc)

/-- ████ THE STATEMENT ████ -/
theorem proved : Rows.LawS4982AExactSaid := over
end Go.Proofs.Ybulkcydq.lawS4982AExact
