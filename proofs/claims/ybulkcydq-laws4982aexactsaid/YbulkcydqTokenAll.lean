import Derived.Test.YbulkcydqToken
import Derived.Test.YbulkcydqIter
namespace Go.Proofs.Ybulkcydq
open Go.RowKit Go.Maps Go.Sort

theorem keysAt (bms bn : Int) (wh : Bool) (mb : Option Nat) (w wk : World) (hwk : wk = w3 bms bn wh mb w) : KeysAt bms bn wh mb w wk := by
  subst hwk
  have h := callsIn_wide.1 (Yba.maps_Keys_11 mb ((w.alloc (.cells #[.int .i64 bms, .int .u32 bn, .map mb, .bool wh] 37)).alloc (.cells #[.string ⟨#[42]⟩, .int .i64 bms, .int .u32 bn] 39)))
  rw [Go.Deep.nblk_alloc, Go.Deep.nblk_alloc] at h
  exact h

/-- TokenOf at the nil map. -/
theorem token_none (bms bn : Int) (wh : Bool) (w : World) : Calls Yba.prog 7 #[.agg #[.int .i64 bms, .int .u32 bn, .map none, .bool wh]] w fun e w' => TokOk bms bn [] w e w' := by
  refine token_nil bms bn wh none w _ rfl (keysAt bms bn wh none w _ rfl) ?_
  have h := callsIn_wide.1 (Yba.slices_Sorted_keys_nil_10_11 ((w.alloc (.cells #[.int .i64 bms, .int .u32 bn, .map none, .bool wh] 37)).alloc (.cells #[.string ⟨#[42]⟩, .int .i64 bms, .int .u32 bn] 39)))
  rw [Go.Deep.nblk_alloc, Go.Deep.nblk_alloc, Go.Deep.nblk_alloc] at h
  refine Calls.mono h ?_
  rintro e w' ⟨v, ss, rfl, hss, _, hnil, hb⟩
  rw [Go.Deep.nblk_alloc, Go.Deep.nblk_alloc] at hb
  exact ⟨by rw [hnil.2 hss], hb⟩

/-- TokenOf at a map that reads as the sorted list L. -/
theorem token_map (bms bn : Int) (wh : Bool) (b nn : Nat) (D : DataW Value) (L : List Ent) (w : World) (hmax : L.length ≤ 1024) (hsz : ∀ p ∈ L, p.1.length ≤ maxLen) (hrel : Rel D L) (hs : (keys L).Pairwise (fun x y => x ≤ y)) (hm : w.ownsMap Yba.prog 9 asIs b nn D) :
    Calls Yba.prog 7 #[.agg #[.int .i64 bms, .int .u32 bn, .map (some b), .bool wh]] w fun e w' => TokOk bms bn L w e w' := by
  have hm2 : ((w.alloc (.cells #[.int .i64 bms, .int .u32 bn, .map (some b), .bool wh] 37)).alloc (.cells #[.string ⟨#[42]⟩, .int .i64 bms, .int .u32 bn] 39)).ownsMap Yba.prog 9 asIs b nn D := (hm.alloc _).alloc _
  have hD : Maps.size D = L.length := (sorted_keys hm law9 Yba.underlying9 hrel hs (List.Perm.refl _)).2.2
  have h := callsIn_wide.1 (Yba.slices_Sorted_keys_10_11 b nn D asIs _ hm2 (by rw [hD]; unfold maxLen; omega) (by rw [hD]; omega))
  rw [Go.Deep.nblk_alloc, Go.Deep.nblk_alloc, Go.Deep.nblk_alloc] at h
  by_cases h0 : L = []
  · subst h0
    refine token_nil bms bn wh (some b) w _ rfl (keysAt bms bn wh (some b) w _ rfl) (Calls.mono h ?_)
    rintro e w' ⟨v, ss, rfl, hp, _, hnil, hb⟩
    rw [Go.Deep.nblk_alloc, Go.Deep.nblk_alloc] at hb
    have hl := (sorted_keys hm law9 Yba.underlying9 hrel hs hp).2.1
    exact ⟨by rw [hnil.2 (List.eq_nil_of_length_eq_zero hl)], hb⟩
  · refine token_some bms bn wh b nn L.length D L w _ rfl rfl hmax hsz hrel hm (keysAt bms bn wh (some b) w _ rfl) (Calls.mono h ?_)
    rintro e w' ⟨v, ss, rfl, hp, ho, _, hb⟩
    rw [Go.Deep.nblk_alloc, Go.Deep.nblk_alloc] at hb
    obtain ⟨k1, k2, _⟩ := sorted_keys hm law9 Yba.underlying9 hrel hs hp
    have hpos : 0 < L.length := List.length_pos_iff.2 h0
    rw [k1, k2] at ho
    obtain ⟨g, cap, rfl⟩ := Go.Joins.ownsRow_form ho hpos
    exact ⟨g, cap, rfl, hb, Go.Joins.ownsRow_le ho (by simp; omega)⟩
end Go.Proofs.Ybulkcydq
