import Derived.Test.YbulkcxwcLaw
import Derived.WalkKit
import Derived.ProofKit
import Derived.OpenShut
import Derived.ShutString
import Derived.ChangeOld
import Derived.Below
namespace Go.Proofs.Ybulkcxwc
open Go.ChangeShapes Go.WideShapes Go.ChangeAt Go.RowKit
open Go.ChangeMaps (open_string shut_string)
set_option linter.unusedVariables false

theorem own : ownKnob Yba.prog.godebug = none := by kernel_rfl
theorem laidOut : laidOutB Yba.prog = true := by kernel_rfl
theorem Yba.cells22 : Yba.prog.cellsOf 22 = 21 := by kernel_rfl

/-- The array that came in: 21 integers. -/
theorem open_arr {H : Type} {enc : TypeId × Value → H} {W : World} {fuel : Nat} {cs : Array Value} {x : DataW H × List MemPlace} {spare : Nat → Bool} {held : Bool} {base : Nat} (hsz : cs.size = 21)
    (h : DataW.trod enc Yba.prog W base spare held fuel 22 cs.toList = some x) : ∃ a : Nat → Int, cs.toList = (List.range 21).map (fun i => Value.int .i64 (a i)) ∧ ∀ i, In64 (a i) := by
  obtain ⟨xs, m, _, _, hl, hn, hx⟩ := DataW.trod_array Yba.underlying22 h
  have key : ∀ i, i < 21 → ∃ n : Int, cs.toList[i]? = some (.int .i64 n) ∧ In64 n := by
    intro i hi
    have h1 := hx i hi
    rw [Yba.cells2, List.getElem?_eq_getElem (by omega)] at h1
    obtain ⟨n, e0, _, w0⟩ := DataW.trod_int Yba.underlying2 h1
    have hi' : i < cs.toList.length := by simpa [hsz] using hi
    refine ⟨n, ?_, in64_of_wf w0⟩
    rw [Nat.mul_one, List.drop_eq_getElem_cons hi'] at e0
    simp only [List.take_succ_cons, List.take_zero, List.cons.injEq, and_true] at e0
    rw [List.getElem?_eq_getElem hi', e0]
  refine ⟨fun i => if h : i < 21 then (key i h).choose else 0, ?_, fun i => ?_⟩
  · refine List.ext_getElem? fun i => ?_
    by_cases hi : i < 21
    · rw [(key i hi).choose_spec.1]; simp [hi]
    · rw [List.getElem?_eq_none (by simp [hsz]; omega), List.getElem?_eq_none (by simp; omega)]
  · by_cases hi : i < 21
    · simp only [hi, dif_pos]; exact (key i hi).choose_spec.2
    · simp only [hi, dif_neg, not_false_eq_true]; unfold In64; omega

set_option maxRecDepth 100000 in
theorem lifted (os : Os) (started : os.Started) (H : Type) (enc : TypeId × Value → H) :
    ReturnsInHanded {} Yba.checked os 3 .any (Rows.lawS4968AModelSpec.pre6 enc Yba.prog Yba.f3 Rows.lawS4968AModelRow.domain false) (Rows.lawS4968AModelSpec.post enc Yba.prog Yba.f3 false true false false) := by
  refine returnsInHanded_of_change (C := Yba.checked) own started (by kernel_rfl) Yba.func3
    (ChangeSpec.witness6 (enc := enc) (C := Yba.checked) false ⟨#[], #[.int .i64 0, .int .i64 0, .int .i64 0, .int .u8 0, .bool false, .agg (Array.replicate 21 (.int .i64 0))], []⟩ 8 (by kernel_rfl) (by kernel_rfl) (by kernel_rfl) (by kernel_rfl)) ?_
  intro W base args ds gs before hval0 hW hcnd _
  have hval : ∀ (j : Nat) t v, Yba.f3.params[j]? = some t → args[j]? = some v → Value.okWide Yba.prog W .any base t v := hval0
  have hW' := hW
  obtain ⟨p, q, hA0, hV, rfl, hfz, hnd⟩ := hW
  have hA : DataW.TrodAll enc Yba.prog W 0 (fun _ => true) true Yba.f3.params.toList args.toList ds p := hA0
  rw [Yba.params3] at hA hval
  obtain ⟨v0, vs0, d0, ds0, p0, q0, hargs, rfl, rfl, h0, r0⟩ := trodAll_cons hA
  obtain ⟨v1, vs1, d1, ds1, p1, q1, rfl, rfl, rfl, h1, r1⟩ := trodAll_cons r0
  obtain ⟨v2, vs2, d2, ds2, p2, q2, rfl, rfl, rfl, h2, r2⟩ := trodAll_cons r1
  obtain ⟨v3, vs3, d3, ds3, p3, q3, rfl, rfl, rfl, h3, r3⟩ := trodAll_cons r2
  obtain ⟨v4, vs4, d4, ds4, p4, q4, rfl, rfl, rfl, h4, r4⟩ := trodAll_cons r3
  obtain ⟨v5, vs5, d5, ds5, p5, q5, rfl, rfl, rfl, h5, r5⟩ := trodAll_cons r4
  obtain ⟨rfl, rfl, rfl⟩ := trodAll_nil r5
  obtain rfl : args = #[v0, v1, v2, v3, v4, v5] := by cases args; simp_all
  obtain ⟨rfl, rfl⟩ := trodVars_none hV
  obtain ⟨a0, rfl, rfl, rfl, w0⟩ := open_int Yba.underlying2 (hval 0 2 v0 rfl rfl) h0
  obtain ⟨a1, rfl, rfl, rfl, w1⟩ := open_int Yba.underlying2 (hval 1 2 v1 rfl rfl) h1
  obtain ⟨a2, rfl, rfl, rfl, w2⟩ := open_int Yba.underlying2 (hval 2 2 v2 rfl rfl) h2
  obtain ⟨a3, rfl, rfl, rfl, w3⟩ := open_int Yba.underlying5 (hval 3 5 v3 rfl rfl) h3
  obtain ⟨a4, rfl, rfl, rfl⟩ := open_bool Yba.underlying4 (hval 4 4 v4 rfl rfl) h4
  have k5 := h5
  have lt5 : ∀ x ∈ p5, x.block < W.heap.size := by obtain ⟨m, hm⟩ := k5; exact DataW.trod_lt m _ _ _ hm
  obtain ⟨cs, rfl, hsz, _⟩ : ∃ cs, v5 = .agg cs ∧ cs.size = Yba.prog.cellsOf 22 ∧ Row.okWide Yba.prog W .any base 22 cs := by
    have := hval 5 22 v5 rfl rfl
    simpa [Value.okWide, Yba.underlying22] using this
  rw [Yba.cells22] at hsz
  obtain ⟨fuel, hf⟩ := h5
  obtain ⟨a, ha, hin⟩ := open_arr hsz (by simpa [Value.cells] using hf)
  clear hA0 hval0
  have hb3 := bounds_u8 w3
  have hcs : cs = (cells ⟨a, a4, a0, a1, a2⟩).toArray := by
    have : cs.toList.toArray = cs := by simp
    rw [← this, ha]; rfl
  subst hcs
  refine (walk ⟨a, a4, a0, a1, a2⟩ ⟨in64_of_wf w0, in64_of_wf w1, in64_of_wf w2, hin⟩ a3 W hb3.1 hb3.2).mono fun e W' ⟨he, bel⟩ => ?_
  subst he
  exact ⟨_, rfl, _, _, _, [], _, [], hW', trodAll_mk1 (shut_bool Yba.underlying4 _), (trodAll_cons_mk (shut_int Yba.underlying2 w0) (trodAll_cons_mk (shut_int Yba.underlying2 w1) (trodAll_cons_mk (shut_int Yba.underlying2 w2) (trodAll_cons_mk (shut_int Yba.underlying5 w3) (trodAll_cons_mk (shut_bool Yba.underlying4 _) (trodAll_cons_mk (Below.trod laidOut (by kernel_rfl) (of_decide_eq_true (by kernel_rfl)) k5 bel lt5) trodAll_mk0)))))), rfl, bel.frame _, fun h => by cases h⟩

theorem over : Rows.lawS4968AModelRow.holds Yba.pinned (OpenSpec.ofChange Rows.lawS4968AModelSpec) :=
  OpenClaim.holds_of_wide 3 Yba.f3 rfl rfl rfl rfl rfl rfl rfl ⟨rfl, rfl, rfl, rfl, rfl⟩ rfl rfl rfl rfl rfl (by kernel_rfl) Yba.func3 (by kernel_rfl)
    (of_decide_eq_true (by kernel_rfl)) (by unfold Func.isWrapper; first | (rw [if_pos (by decide +kernel)]; kernel_rfl) | (rw [if_neg (by decide +kernel)]; exact ⟨rfl, rfl⟩))
    (fun os started H enc _ => lifted os started H enc)

/-- THE STATEMENT -/
theorem proved : Rows.LawS4968AModelSaid := over
#print axioms proved
end Go.Proofs.Ybulkcxwc
