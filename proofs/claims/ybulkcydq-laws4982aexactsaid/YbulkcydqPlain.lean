import Derived.Test.YbulkcydqRows
import Derived.Maps.OwnSet
import Derived.Maps.OwnOps
import Derived.Sort.KeysCollected
namespace Go.Proofs.Ybulkcydq
open Go.RowKit Go.Maps Go.Sort

abbrev TS := Int × Int
abbrev Ent := List UInt8 × TS
/-- A timestamp as a value. -/
def tsV (t : TS) : Value := .agg #[.int .i64 t.1, .int .u32 t.2]
/-- How an element of the map reads: as itself. -/
def asIs (v : Value) : Option (DataW Value × List MemPlace) := some (.held v, [])

def key (L : List Ent) (i : Nat) : List UInt8 := (L.getD i ([], (0, 0))).1
def keys (L : List Ent) : List (List UInt8) := L.map (·.1)
/-- The map reads as the list of pairs. -/
structure Rel (D : DataW Value) (L : List Ent) : Prop where
  isMap : IsMap D
  nodup : (keys L).Nodup
  has : ∀ x, Maps.has D (.string x) = true ↔ x ∈ keys L
  at_ : ∀ p ∈ L, ∀ z, D.atKey (.string p.1) z = .held (tsV p.2)

theorem rel_start : Rel (.map []) [] := ⟨isMap_empty, by simp [keys], fun x => by simp [Maps.has, keys], by simp⟩
theorem rel_append {D : DataW Value} {L : List Ent} (h : Rel D L) (x : List UInt8) (t : TS) (hx : x ∉ keys L) : Rel (D.put (.string x) (.held (tsV t))) (L ++ [(x, t)]) := by
  refine ⟨h.isMap.put _ _, ?_, fun y => ?_, fun p hp z => ?_⟩
  · simp only [keys, List.map_append, List.map_cons, List.map_nil]
    rw [List.nodup_append]
    exact ⟨h.nodup, by simp, fun a ha b hb => by simp at hb; subst hb; intro e; exact hx (e ▸ ha)⟩
  · by_cases e : y = x
    · subst e; simp [has_put_same h.isMap (show WideAt.IsKeyLit (.string y) from trivial), keys]
    · rw [has_put_other (by simpa using e), h.has y]; simp [keys, e]
  · rcases List.mem_append.1 hp with hp | hp
    · have hne : p.1 ≠ x := fun e => hx (e ▸ List.mem_map_of_mem hp)
      rw [atKey_put_other (by simpa using hne)]; exact h.at_ p hp z
    · simp at hp; subst hp; exact atKey_put_same h.isMap (show WideAt.IsKeyLit (.string x) from trivial) _ _
theorem keys_set {L : List Ent} {j : Nat} {x : List UInt8} (t : TS) (hj : j < L.length) (hx : key L j = x) : keys (L.set j (x, t)) = keys L := by
  unfold keys
  rw [List.map_set]
  have : (L.map (·.1))[j]'(by simpa using hj) = x := by simpa [key, List.getD_eq_getElem?_getD, List.getElem?_eq_getElem hj] using hx
  rw [← this]; exact List.set_getElem_self _
theorem rel_set {D : DataW Value} {L : List Ent} (h : Rel D L) (x : List UInt8) (t : TS) (j : Nat) (hj : j < L.length) (hx : key L j = x) : Rel (D.put (.string x) (.held (tsV t))) (L.set j (x, t)) := by
  have hk := keys_set t hj hx
  have hxm : x ∈ keys L := by rw [← hx]; exact List.mem_map.2 ⟨L[j], List.getElem_mem hj, by simp [key, List.getD_eq_getElem?_getD, List.getElem?_eq_getElem hj]⟩
  refine ⟨h.isMap.put _ _, hk ▸ h.nodup, fun y => ?_, fun p hp z => ?_⟩
  · rw [hk]
    by_cases e : y = x
    · subst e; simp [has_put_same h.isMap (show WideAt.IsKeyLit (.string y) from trivial), hxm]
    · rw [has_put_other (by simpa using e), h.has y]
  · by_cases e : p.1 = x
    · rw [e, atKey_put_same h.isMap (show WideAt.IsKeyLit (.string x) from trivial)]
      obtain ⟨i, hi, rfl⟩ := List.mem_iff_getElem.1 hp
      have hn : (keys (L.set j (x, t))).Nodup := hk ▸ h.nodup
      have hj' : j < (L.set j (x, t)).length := by simpa using hj
      have e2 : (keys (L.set j (x, t)))[i]'(by simpa [keys] using hi) = (keys (L.set j (x, t)))[j]'(by simpa [keys] using hj') := by
        simp only [keys, List.getElem_map]
        rw [e]; simp
      have : i = j := (List.getElem_inj hn).1 e2
      subst this; simp
    · rw [atKey_put_other (by simpa using e)]
      have : p ∈ L := by
        rcases List.mem_or_eq_of_mem_set hp with h1 | h1
        · exact h1
        · subst h1; exact absurd rfl e
      exact h.at_ p this z
theorem rel_perm {D : DataW Value} {L L' : List Ent} (h : Rel D L) (hp : L.Perm L') : Rel D L' :=
  ⟨h.isMap, (hp.map (fun p : Ent => p.1)).nodup_iff.1 h.nodup, fun x => by rw [h.has x]; exact (hp.map (fun p : Ent => p.1)).mem_iff, fun p hm z => h.at_ p (hp.mem_iff.2 hm) z⟩
/-- The keys as the library sorts them are the list's, where the list is sorted. -/
theorem sorted_keys {w : World} {P : Program} {b n : Nat} {D : DataW Value} {L : List Ent} (hown : w.ownsMap P 9 asIs b n D) (K : Keyed P 9) (hk : P.underlying 9 = some .string) (h : Rel D L) (hs : (keys L).Pairwise (fun x y => x ≤ y)) {ss : List (List UInt8)} (hp : ss.Perm (strKeys D)) :
    ss.mergeSort leB = keys L ∧ ss.length = L.length ∧ Maps.size D = L.length := by
  obtain ⟨es, rfl, hpw⟩ := hown.tidy K
  obtain ⟨es', he, hko⟩ := hown.keysOf
  cases he
  have hq : (keys L).Perm (strKeys (.map es)) := perm_strKeys hpw (fun p hp => by
    obtain ⟨v, hv⟩ := hko p hp
    obtain ⟨y, _, hy, _⟩ := Maps.keyOf_str hk hv
    exact ⟨y, hy⟩) h.nodup (fun x => (h.has x).symm)
  have hl := hq.length_eq
  have hl2 := hp.length_eq
  simp only [keys, strKeys, List.length_map] at hl hl2
  refine ⟨?_, by rw [hl2, hl], by simp [Maps.size, hl]⟩
  rw [mergeSort_of_perm (hp.trans hq.symm)]
  have tr : ∀ a b c : List UInt8, leB a b = true → leB b c = true → leB a c = true := fun a b c h1 h2 => by simp only [leB, decide_eq_true_eq] at *; exact List.le_trans h1 h2
  have to : ∀ a b : List UInt8, (leB a b || leB b a) = true := fun a b => by simp only [leB, Bool.or_eq_true, decide_eq_true_eq]; exact List.le_total a b
  exact List.mergeSort_of_pairwise (hs.imp (fun h => by simpa [leB] using h))

/-! The sort. -/
def nth (L : List Ent) (i : Nat) : Ent := L.getD i ([], (0, 0))
def swap (L : List Ent) (j : Nat) : List Ent := (L.set j (nth L (j - 1))).set (j - 1) (nth L j)
theorem swap_len (L : List Ent) (j : Nat) : (swap L j).length = L.length := by simp [swap]
theorem nth_set (L : List Ent) (j i : Nat) (x : Ent) (hj : j < L.length) : nth (L.set j x) i = if i = j then x else nth L i := by
  unfold nth
  rw [List.getD_eq_getElem?_getD, List.getD_eq_getElem?_getD, List.getElem?_set]
  by_cases e : i = j
  · subst e; simp [hj]
  · rw [if_neg (fun h => e h.symm), if_neg e]
theorem nth_swap (L : List Ent) (j i : Nat) (hj : j < L.length) (h0 : 0 < j) : nth (swap L j) i = if i = j - 1 then nth L j else if i = j then nth L (j - 1) else nth L i := by
  unfold swap
  rw [nth_set _ _ _ _ (by simp; omega), nth_set _ _ _ _ hj]
theorem swap_perm (L : List Ent) (j : Nat) (hj : j < L.length) (h0 : 0 < j) : L.Perm (swap L j) := by
  have h := @List.set_set_perm _ L j (j - 1) hj (by omega)
  have e1 : nth L j = L[j] := by simp [nth, List.getD_eq_getElem?_getD, List.getElem?_eq_getElem hj]
  have e2 : nth L (j - 1) = L[j - 1] := by simp [nth, List.getD_eq_getElem?_getD, List.getElem?_eq_getElem (show j - 1 < L.length by omega)]
  unfold swap
  rw [e1, e2]
  exact h.symm
/-- Sorted up to i, but for what lies ahead of j. -/
def Ins (L : List Ent) (i j : Nat) : Prop := ∀ a b, a < b → b ≤ i → b ≠ j → (nth L a).1 ≤ (nth L b).1
theorem ins_swap {L : List Ent} {i j : Nat} (h : Ins L i j) (hi : i < L.length) (hji : j ≤ i) (h0 : 0 < j) (hlt : (nth L j).1 < (nth L (j - 1)).1) : Ins (swap L j) i (j - 1) := by
  intro a b hab hbi hbj
  have hn := fun x => nth_swap L j x (by omega) h0
  rw [hn a, hn b, if_neg hbj]
  by_cases hb : b = j
  · subst hb
    rw [if_pos rfl]
    by_cases ha : a = b - 1
    · rw [if_pos ha]; exact List.le_of_lt hlt
    · rw [if_neg ha, if_neg (by omega)]; exact h a (b - 1) (by omega) (by omega) (by omega)
  · rw [if_neg hb]
    by_cases ha : a = j - 1
    · rw [if_pos ha]; exact h j b (by omega) hbi hb
    · rw [if_neg ha]
      by_cases ha2 : a = j
      · rw [if_pos ha2]; exact h (j - 1) b (by omega) hbi hb
      · rw [if_neg ha2]; exact h a b hab hbi hb
theorem ins_done {L : List Ent} {i j : Nat} (h : Ins L i j) (hji : j ≤ i) (hge : j = 0 ∨ ¬ (nth L j).1 < (nth L (j - 1)).1) : Ins L (i + 1) (i + 1) := by
  intro a b hab hbi hbj
  by_cases hb : b = j
  · subst hb
    rcases hge with rfl | hge
    · omega
    · have hle : (nth L (b - 1)).1 ≤ (nth L b).1 := List.not_lt.1 hge
      by_cases ha : a = b - 1
      · rw [ha]; exact hle
      · exact List.le_trans (h a (b - 1) (by omega) (by omega) (by omega)) hle
  · exact h a b hab (by omega) hb
theorem ins_all {L : List Ent} {i : Nat} (h : Ins L i i) (hi : L.length ≤ i) : (keys L).Pairwise (fun x y => x ≤ y) := by
  unfold keys
  rw [List.pairwise_map, List.pairwise_iff_getElem]
  intro a b ha hb hab
  have := h a b hab (by omega) (by omega)
  simpa [nth, List.getD_eq_getElem?_getD, List.getElem?_eq_getElem ha, List.getElem?_eq_getElem hb] using this
theorem ins_start (L : List Ent) : Ins L 1 1 := by
  intro a b hab hb hne
  omega
end Go.Proofs.Ybulkcydq
