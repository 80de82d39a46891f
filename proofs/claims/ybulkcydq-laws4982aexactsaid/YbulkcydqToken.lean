import Derived.Test.YbulkcydqPlain
import Derived.WalkKit
import Derived.WalkSpells
import Derived.Deep.QuietTactic
import Derived.BigQuiet
import Derived.Deep.RegionWith
import Derived.OpenShut
import Derived.OwnWalk
import Derived.Lib.OwnKind
import Derived.Lib.SmallJoins
import Derived.Deep.DeepCutAuto
import Derived.Deep.Heap
namespace Go.Proofs.Ybulkcydq
open Go.RowKit Go.Maps Go.Sort

theorem law9 : Keyed Yba.prog 9 := string_keyed Yba.underlying9
theorem zero31 (w : World) : (zeroValue 31).run Yba.prog w = .ok (.agg #[.int .i64 0, .int .u32 0]) w := by kernel_rfl
theorem info39 : (Yba.prog.info? 39).map (fun i => (i.zero, i.size, i.bytes)) = some (some (.agg #[.string ⟨#[]⟩, .int .i64 0, .int .u32 0]), 3, 32) := by kernel_rfl
/-- A clause's cells. -/
def clause (p : Ent) : List Value := [.string ⟨p.1.toArray⟩, .int .i64 p.2.1, .int .u32 p.2.2]
def tokC (bms bn : Int) (L : List Ent) : List Value := clause ([42], (bms, bn)) ++ L.flatMap clause
theorem tokC_len (bms bn : Int) (L : List Ent) : (tokC bms bn L).length = 3 * (1 + L.length) := by
  simp [tokC, clause]
  induction L with
  | nil => rfl
  | cons a t ih => simp only [List.map_cons, List.sum_cons, List.length_cons]; omega

theorem cell_three_new (w : World) (x y z : Value) (t : TypeId) : ∀ j u, [x, y, z][j]? = some u → (w.alloc (.cells #[x, y, z] t)).cell? ((⟨w.heap.size, 0, none⟩ : Addr).add j) = some u := by
  intro j u hu
  rw [show (⟨w.heap.size, 0, none⟩ : Addr).add j = ⟨w.heap.size, j, none⟩ from by unfold Addr.add; split <;> simp_all, cell_of_row _ _ _ _ _ _ (heap_alloc_new w _)]
  simpa using hu

/-- What the law of TokenOf leaves. -/
def TokOk (bms bn : Int) (L : List Ent) (w : World) (e : Ending) (w' : World) : Prop :=
  ∃ g cap, e = .returned (.slice (some ⟨g, 0, none⟩) (1 + L.length) cap) ∧ w'.ownsRow w.heap.size 39 3 (.slice (some ⟨g, 0, none⟩) (1 + L.length) cap) (1 + L.length) (tokC bms bn L) ∧ Below w.heap.size w w'

/-- The three blocks that TokenOf lays ahead of the sort. -/
def w3 (bms bn : Int) (wh : Bool) (mb : Option Nat) (w : World) : World := ((w.alloc (.cells #[.int .i64 bms, .int .u32 bn, .map mb, .bool wh] 37)).alloc (.cells #[.string ⟨#[42]⟩, .int .i64 bms, .int .u32 bn] 39)).alloc (.cells #[.map mb] 25)
/-- maps.Keys where TokenOf calls it. -/
def KeysAt (bms bn : Int) (wh : Bool) (mb : Option Nat) (w wk : World) : Prop :=
  Calls Yba.prog 11 #[.map mb] ((w.alloc (.cells #[.int .i64 bms, .int .u32 bn, .map mb, .bool wh] 37)).alloc (.cells #[.string ⟨#[42]⟩, .int .i64 bms, .int .u32 bn] 39)) fun e w' => e = .returned (.func (.func 15) #[] #[.pointer (some ⟨w.heap.size + 2, 0, none⟩)]) ∧ w' = wk

theorem own_start (bms bn : Int) (wh : Bool) (mb : Option Nat) (w wk w2 : World) (hwk : wk = w3 bms bn wh mb w) (hb : Below (w.heap.size + 3) wk w2) :
    w2.ownsRow w.heap.size 39 3 (.slice (some ⟨w.heap.size + 1, 0, none⟩) 1 1) 1 (tokC bms bn []) ∧ Below w.heap.size w w2 ∧ w2.cell? ⟨w.heap.size, 2, none⟩ = some (.map mb) := by
  subst hwk
  have h0 : (w3 bms bn wh mb w).heap[w.heap.size]? = some (.cells #[.int .i64 bms, .int .u32 bn, .map mb, .bool wh] 37 (0, 0)) :=
    (Go.Deep.blk_alloc_lt _ _ _ (by rw [Go.Deep.nblk_alloc, Go.Deep.nblk_alloc]; omega)).trans ((Go.Deep.blk_alloc_lt _ _ _ (by rw [Go.Deep.nblk_alloc]; omega)).trans (heap_alloc_new w _))
  have h1 : (w3 bms bn wh mb w).heap[w.heap.size + 1]? = some (.cells #[.string ⟨#[42]⟩, .int .i64 bms, .int .u32 bn] 39 (0, 0)) := by
    refine (Go.Deep.blk_alloc_lt _ _ _ (by rw [Go.Deep.nblk_alloc, Go.Deep.nblk_alloc]; omega)).trans ?_
    have := heap_alloc_new (w.alloc (.cells #[.int .i64 bms, .int .u32 bn, .map mb, .bool wh] 37)) (.cells #[.string ⟨#[42]⟩, .int .i64 bms, .int .u32 bn] 39)
    rw [Go.Deep.nblk_alloc] at this
    exact this
  have b3 : Below w.heap.size w (w3 bms bn wh mb w) := (((Below.refl _ _).alloc (Nat.le_refl _) _).alloc (by rw [Go.Deep.nblk_alloc]; omega) _).alloc (by rw [Go.Deep.nblk_alloc, Go.Deep.nblk_alloc]; omega) _
  have g0 := (hb.block w.heap.size (by omega)).trans h0
  have g1 := (hb.block (w.heap.size + 1) (by omega)).trans h1
  refine ⟨⟨by simp [tokC_len], .inr ⟨w.heap.size + 1, 1, _, rfl, by omega, g1, Nat.le_refl _, by decide, rfl, rfl⟩⟩, b3.trans (hb.mono (by omega)), ?_⟩
  rw [cell_of_row _ _ _ _ _ _ g0]; rfl

set_option maxHeartbeats 1000000 in
theorem token_nil (bms bn : Int) (wh : Bool) (mb : Option Nat) (w wk : World) (hwk : wk = w3 bms bn wh mb w) (hK : KeysAt bms bn wh mb w wk)
    (hS : Calls Yba.prog 10 #[.func (.func 15) #[] #[.pointer (some ⟨w.heap.size + 2, 0, none⟩)]] wk fun e w' => e = .returned (.slice none 0 0) ∧ Below (w.heap.size + 3) wk w') :
    Calls Yba.prog 7 #[.agg #[.int .i64 bms, .int .u32 bn, .map mb, .bool wh]] w fun e w' => TokOk bms bn [] w e w' := by
  have HW : Hid (wk = w3 bms bn wh mb w) := hwk
  have HK : Hid (KeysAt bms bn wh mb w wk) := hK
  have HS : Hid (Calls Yba.prog 10 #[.func (.func 15) #[] #[.pointer (some ⟨w.heap.size + 2, 0, none⟩)]] wk fun e w' => e = .returned (.slice none 0 0) ∧ Below (w.heap.size + 3) wk w') := hS
  clear hK hS hwk
  go_enter Yba.func7, Yba.ntmps7
  go_wp2_with (first
    | (go_at_call 11; refine Calls.mono HK.out ?_; rintro e w1 ⟨rfl, rfl⟩)
    | (go_at_call 10; refine HS.out.mono ?_; rintro e w2 ⟨rfl, hb2⟩; obtain ⟨o2, b2, _⟩ := own_start _ _ _ _ _ _ _ HW.out hb2))
  go_loop [3, 15] (fun v i => v = .slice (some ⟨w.heap.size + 1, 0, none⟩) 1 1 ∧ i = .int .i64 0) (fun _ _ => 0)
  case atStart => exact ⟨rfl, rfl⟩
  case round =>
    obtain ⟨rfl, rfl⟩ := hrel
    go_wp2_with fail
    go_ret
    exact ⟨_, _, rfl, o2, b2⟩

theorem own_block {w : World} {B n g cap : Nat} {xs : List Value} (h : w.ownsRow B 39 3 (.slice (some ⟨g, 0, none⟩) n cap) n xs) : ∃ c fz, w.heap[g]? = some (.cells c 39 fz) := Lib.ownsRow_kind h g rfl
theorem own39 {w : World} {B n : Nat} {v : Value} {xs : List Value} (h : w.ownsRow B 39 3 v n xs) {g : Nat} {o : Obj} (hg : w.heap[g]? = some o) (hne : ∀ c fz, o ≠ .cells c 39 fz) : v.ownBlock ≠ some g := fun e => by
  obtain ⟨c, fz, hc⟩ := Lib.ownsRow_kind h g e
  rw [hg] at hc
  cases hc; exact hne _ _ rfl
/-- TokenOf at work. -/
structure TInv (w : World) (bms bn : Int) (wh : Bool) (b nn n gS capS : Nat) (D : DataW Value) (L : List Ent) (v : Value) (j : Nat) (wr : World) : Prop where
  own : wr.ownsRow w.heap.size 39 3 v (1 + j) (tokC bms bn (L.take j))
  below : Below w.heap.size w wr
  box : wr.heap[w.heap.size]? = some (.cells #[.int .i64 bms, .int .u32 bn, .map (some b), .bool wh] 37 (0, 0))
  names : wr.ownsRow w.heap.size 9 1 (.slice (some ⟨gS, 0, none⟩) n capS) n ((keys L).map fun x => .string ⟨x.toArray⟩)
  map : wr.ownsMap Yba.prog 9 asIs b nn D
theorem tokC_succ (bms bn : Int) (L : List Ent) (j : Nat) (p : Ent) (hp : L[j]? = some p) : tokC bms bn (L.take (j + 1)) = tokC bms bn (L.take j) ++ clause p := by
  obtain ⟨hj, rfl⟩ := List.getElem?_eq_some_iff.1 hp
  unfold tokC
  rw [List.take_succ_eq_append_getElem hj, List.flatMap_append, List.append_assoc, List.flatMap_cons, List.flatMap_nil, List.append_nil]
theorem TInv.append {w wr : World} {bms bn : Int} {wh : Bool} {b nn n gS capS : Nat} {D : DataW Value} {L : List Ent} {v : Value} {j : Nat} {ops : Array Oper} {rest : List Oper} {o : Oper} {a : Act} {Q : Exit → Act → World → Prop}
    (hi : TInv w bms bn wh b nn n gS capS D L v j wr) (hj : j ≤ 1024) (hgd : o.guard = none) (s x : Operand) (ho : o.op = .call { callee := .builtin .append, args := #[s, x], argTypes := #[34, 34] }) (hs : a.eval s = v) (ad : Nat) (hx : a.eval x = .slice (some ⟨ad, 0, none⟩) 1 1) (had : ad = wr.heap.size) (p : Ent) (hp : L[j]? = some p)
    (h : ∀ v' w1, TInv w bms bn wh b nn n gS capS D L v' (j + 1) w1 → wpList Yba.prog ops Q rest (a.put o.dst v') w1) :
    wpList Yba.prog ops Q (o :: rest) a (wr.alloc (.cells #[.string ⟨p.1.toArray⟩, .int .i64 p.2.1, .int .u32 p.2.2] 39)) := by
  obtain ⟨i0, hi0, hz0, hz1, hz2⟩ := info_parts info39
  subst had
  refine wpList_append_own _ hgd s x 34 ho w.heap.size 39 i0 _ 3 32 Yba.underlying34 hi0 hz0 hz1 hz2 rfl (by decide) v (1 + j) _ hs (hi.own.alloc _) ⟨wr.heap.size, 0, none⟩ 1 1 (clause p) hx rfl (cell_three_new _ _ _ _ _) (by simp [clause, Value.oneCell']) (by unfold maxLen; omega) (by omega) (by have := hi.below.size; simp; omega) ?_
  intro v' w1 o1 g1 _
  have ba : Below w.heap.size w (wr.alloc (.cells #[.string ⟨p.1.toArray⟩, .int .i64 p.2.1, .int .u32 p.2.2] 39)) := hi.below.alloc hi.below.size _
  have hne37 : v.ownBlock ≠ some w.heap.size := own39 hi.own hi.box (by intro c fz e; cases e)
  have hneS : v.ownBlock ≠ some gS := by
    obtain ⟨c, fz, hc⟩ := Lib.ownsRow_kind hi.names gS rfl
    exact own39 hi.own hc (by intro c fz e; cases e)
  have hneM : v.ownBlock ≠ some b := by
    obtain ⟨es, cl, hb, _⟩ := hi.map
    exact own39 hi.own hb (by intro c fz e; cases e)
  have hb1 : w.heap.size < wr.heap.size := (Array.getElem?_eq_some_iff.1 hi.box).1
  refine h v' w1 ⟨?_, ba.grown g1 ba.size (fun k hk => (hi.own.lt k hk).1), ?_, (hi.names.alloc _).kept g1 (.inr fun e => hneS e.symm), (hi.map.alloc _).kept g1 (fun e => hneM e.symm)⟩
  · rw [tokC_succ bms bn L j p hp]; exact o1
  · rw [g1.block _ (by simp; omega) (fun e => hne37 e.symm), Go.Deep.blk_alloc_lt _ _ _ hb1]; exact hi.box

theorem tinv_start {w wk w2 : World} {bms bn : Int} {wh : Bool} {b nn n gS capS : Nat} {D : DataW Value} {L : List Ent} (hwk : wk = w3 bms bn wh (some b) w) (hb : Below (w.heap.size + 3) wk w2) (oS : w2.ownsRow w.heap.size 9 1 (.slice (some ⟨gS, 0, none⟩) n capS) n ((keys L).map fun x => .string ⟨x.toArray⟩)) (hm : w.ownsMap Yba.prog 9 asIs b nn D) :
    TInv w bms bn wh b nn n gS capS D L (.slice (some ⟨w.heap.size + 1, 0, none⟩) 1 1) 0 w2 := by
  obtain ⟨o2, b2, _⟩ := own_start _ _ _ _ _ _ _ hwk hb
  refine ⟨o2, b2, ?_, oS, ?_⟩
  · subst hwk
    exact (hb.block w.heap.size (by omega)).trans ((Go.Deep.blk_alloc_lt _ _ _ (by rw [Go.Deep.nblk_alloc, Go.Deep.nblk_alloc]; omega)).trans ((Go.Deep.blk_alloc_lt _ _ _ (by rw [Go.Deep.nblk_alloc]; omega)).trans (heap_alloc_new w _)))
  · have hbl := hm.lt
    obtain ⟨es, cl, hbk, r⟩ := hm
    exact ⟨es, cl, (b2.block b hbl).trans hbk, r⟩

theorem look_at {wr : World} {b nn : Nat} {D : DataW Value} {L : List Ent} {p : Ent} (hm : wr.ownsMap Yba.prog 9 asIs b nn D) (hr : Rel D L) (hp : p ∈ L) (hs : p.1.length ≤ maxLen) :
    (Instr.lookup 25 (.map (some b)) (.string ⟨p.1.toArray⟩) false).run Yba.prog wr = .ok (.agg #[.int .i64 p.2.1, .int .u32 p.2.2]) wr := by
  obtain ⟨v, ps, hrun, hv⟩ := hm.lookup (zd := .held (.agg #[.int .i64 0, .int .u32 0])) (zp := []) law9 Yba.underlying25 (zero31 wr) rfl (key := .string ⟨p.1.toArray⟩) (kl := .string p.1) (by
    have := Go.WideMaps.keyOf_string_mk Yba.underlying9 (s := ⟨p.1.toArray⟩) (by simpa [ByteArray.size] using hs)
    simpa using this)
  rw [hr.at_ p hp] at hv
  simp only [asIs, Option.some.injEq, Prod.mk.injEq, DataW.held.injEq] at hv
  rw [hrun, hv.1]; rfl
theorem tok_end {w wr : World} {bms bn : Int} {wh : Bool} {b nn n gS capS : Nat} {D : DataW Value} {L : List Ent} {v : Value} (hL : L.length = n) (hi : TInv w bms bn wh b nn n gS capS D L v n wr) : TokOk bms bn L w (.returned v) wr := by
  obtain ⟨g, cap, rfl⟩ := Go.Joins.ownsRow_form hi.own (by omega)
  have ho := hi.own
  rw [List.take_of_length_le (by omega)] at ho
  subst hL
  exact ⟨g, cap, rfl, ho, hi.below⟩

set_option maxHeartbeats 2000000 in
theorem token_some (bms bn : Int) (wh : Bool) (b nn n : Nat) (D : DataW Value) (L : List Ent) (w wk : World) (hwk : wk = w3 bms bn wh (some b) w) (hL : L.length = n) (hmax : n ≤ 1024) (hsz : ∀ p ∈ L, p.1.length ≤ maxLen) (hrel : Rel D L) (hm : w.ownsMap Yba.prog 9 asIs b nn D) (hK : KeysAt bms bn wh (some b) w wk)
    (hS : Calls Yba.prog 10 #[.func (.func 15) #[] #[.pointer (some ⟨w.heap.size + 2, 0, none⟩)]] wk fun e w' => ∃ gS capS, e = .returned (.slice (some ⟨gS, 0, none⟩) n capS) ∧ Below (w.heap.size + 3) wk w' ∧ w'.ownsRow w.heap.size 9 1 (.slice (some ⟨gS, 0, none⟩) n capS) n ((keys L).map fun x => .string ⟨x.toArray⟩)) :
    Calls Yba.prog 7 #[.agg #[.int .i64 bms, .int .u32 bn, .map (some b), .bool wh]] w fun e w' => TokOk bms bn L w e w' := by
  have HW : Hid (wk = w3 bms bn wh (some b) w) := hwk
  have HK : Hid (KeysAt bms bn wh (some b) w wk) := hK
  have HS : Hid (Calls Yba.prog 10 #[.func (.func 15) #[] #[.pointer (some ⟨w.heap.size + 2, 0, none⟩)]] wk fun e w' => ∃ gS capS, e = .returned (.slice (some ⟨gS, 0, none⟩) n capS) ∧ Below (w.heap.size + 3) wk w' ∧ w'.ownsRow w.heap.size 9 1 (.slice (some ⟨gS, 0, none⟩) n capS) n ((keys L).map fun x => .string ⟨x.toArray⟩)) := hS
  have HM : Hid (w.ownsMap Yba.prog 9 asIs b nn D) := hm
  have HSZ : Hid (∀ p ∈ L, p.1.length ≤ maxLen) := hsz
  have HR : Hid (Rel D L) := hrel
  clear hK hS hwk hm hsz hrel
  have hni : (n : Int) ≤ 1024 := by omega
  go_enter Yba.func7, Yba.ntmps7
  go_wp2_with (first
    | (go_at_call 11; refine Calls.mono HK.out ?_; rintro e w1 ⟨rfl, rfl⟩)
    | (go_at_call 10; refine HS.out.mono ?_; rintro e w2 ⟨gS, capS, rfl, hb2, oS⟩; have hT := tinv_start HW.out hb2 oS HM.out))
  go_loopw [3, 15] (fun v i wr => ∃ j : Nat, j ≤ n ∧ i = .int .i64 j ∧ TInv w bms bn wh b nn n gS capS D L v j wr) (fun _ i _ => n - (intOf i).toNat)
  case atStart => exact ⟨0, by omega, rfl, hT⟩
  case round =>
    obtain ⟨j, hj, rfl, hi⟩ := hrel
    by_cases hjn : j < n
    · obtain ⟨p, hp⟩ : ∃ p, L[j]? = some p := ⟨L[j]'(by omega), List.getElem?_eq_getElem _⟩
      have hpm : p ∈ L := List.mem_of_getElem? hp
      have q1 : wr.cell? ⟨gS, j, none⟩ = some (.string ⟨p.1.toArray⟩) := by rw [hi.names.cellAt j (by omega)]; simp [keys, hp]
      have q2 : wr.cell? ⟨w.heap.size, 2, none⟩ = some (.map (some b)) := by rw [cell_of_row _ _ _ _ _ _ hi.box]; rfl
      have hrun := look_at hi.map HR.out hpm (HSZ.out p hpm)
      have hj1 : (j : Int) < (n : Int) := by omega
      have HI : Hid (TInv w bms bn wh b nn n gS capS D L u3 j wr) := hi
      have HP : Hid (L[j]? = some p) := hp
      clear hi hp hpm
      obtain ⟨x, t1, t2⟩ := p
      go_wp2_with (first
        | (at_builtin; refine HI.out.append (by omega) rfl (.tmp 19) (.tmp 26) rfl rfl _ rfl rfl (x, t1, t2) HP.out ?_; intro v' w1 hi1))
      go_roundw
      case rel => exact ⟨j + 1, by omega, by go_num, hi1⟩
      case measure => simp [intOf]; omega
    · obtain rfl : j = n := by omega
      have HI : Hid (TInv w bms bn wh b nn j gS capS D L u3 j wr) := hi
      clear hi
      go_wp2_with fail
      go_ret
      exact tok_end hL HI.out
end Go.Proofs.Ybulkcydq
