import Derived.Test.YbulkcydqInv5
namespace Go.Proofs.Ybulkcydq
open Go.RowKit Go.Maps Go.Sort

/-- The entries that came in. -/
def InE (w : World) (a0 : Option Addr) (len : Nat) (E : Nat → Ent) : Prop :=
  0 < len → ∃ eb eo, a0 = some ⟨eb, eo, none⟩ ∧ ∀ i, i < len → w.cell? ⟨eb, eo + i * 3, none⟩ = some (.string ⟨(E i).1.toArray⟩) ∧ w.cell? ⟨eb, eo + i * 3 + 1, none⟩ = some (.int .i64 (E i).2.1) ∧ w.cell? ⟨eb, eo + i * 3 + 2, none⟩ = some (.int .u32 (E i).2.2) ∧ (E i).1.length ≤ maxLen

set_option maxRecDepth 100000 in
set_option maxHeartbeats 4000000 in
theorem law_map (bms bn : Int) (a0 : Option Addr) (len cap : Nat) (nm wh : Bool) (E : Nat → Ent) (w : World) (hlen : len ≤ 1024) (hnm : (nm && ((len : Int) == 0)) = false) (hin : InE w a0 len E) :
    Calls Yba.prog 3 #[.int .i64 bms, .int .u32 bn, .slice a0 len cap, .bool nm, .bool wh] w fun e w' => e = .returned (.bool true) ∧ Below w.heap.size w w' := by
  have HIN : Hid (InE w a0 len E) := hin
  clear hin
  have hl1 : (len : Int) ≤ 1024 := by omega
  have hmm := @run_makeMap Yba.prog
  go_enter Yba.func3, Yba.ntmps3
  go_upto_region 4 with fail
  go_cut [37] (fun s wx => s = .bool true ∧ w = wx)
  case first =>
    cases nm
    · go_wp2_with fail
      go_meet
      case rel => exact ⟨rfl, rfl⟩
    · have hz : ((len : Int) == 0) = false := by simpa using hnm
      go_wp2_with fail
      go_meet
      case rel => exact ⟨rfl, rfl⟩
  case rest =>
  obtain ⟨rfl, rfl⟩ := hcut
  have hI := linv_start w
  go_upto_region 7 with fail
  iterate 11 go_step
  go_cut [12, 13] (fun s12 s13 wx => ∃ gN cN gT cT D L, s12 = .slice (some ⟨gN, 0, none⟩) (List.length L) cN ∧ s13 = .slice (some ⟨gT, 0, none⟩) (List.length L) cT ∧ LInv w gN cN gT cT D L len wx)
  case first =>
    go_wp2_with fail
    go_loopw [12, 13, 14] (fun s12 s13 i wr => ∃ (k gN cN gT cT : Nat) (D : DataW Value) (L : List Ent), k ≤ len ∧ i = .int .i64 k ∧ s12 = .slice (some ⟨gN, 0, none⟩) L.length cN ∧ s13 = .slice (some ⟨gT, 0, none⟩) L.length cT ∧ LInv w gN cN gT cT D L k wr) (fun _ _ i _ => len - (intOf i).toNat)
    case atStart => exact ⟨0, _, _, _, _, _, [], by omega, rfl, rfl, rfl, hI⟩
    case round =>
      obtain ⟨k, gN, cN, gT, cT, D, L, hk, rfl, rfl, rfl, hi⟩ := hrel
      by_cases hkl : k < len
      · obtain ⟨eb, eo, rfl, hc⟩ := HIN.out (by omega)
        obtain ⟨q0, q1, q2, hx⟩ := hc k hkl
        have hk1 : (k : Int) < (len : Int) := by omega
        replace q0 := (hi.below.cell (World.block_lt_of_cell? w _ q0)).trans q0
        replace q1 := (hi.below.cell (World.block_lt_of_cell? w _ q1)).trans q1
        replace q2 := (hi.below.cell (World.block_lt_of_cell? w _ q2)).trans q2
        clear hc
        generalize E k = p at *
        obtain ⟨x, t1, t2⟩ := p
        have hkey : keyOf Yba.prog 9 (.string ⟨x.toArray⟩) = some (.string x) := by
          have := Go.WideMaps.keyOf_string_mk Yba.underlying9 (s := ⟨x.toArray⟩) (by simpa [ByteArray.size] using hx)
          simpa using this
        have hll : L.length ≤ 1024 := by have := hi.len; omega
        have HI : Hid (LInv w gN cN gT cT D L k wr) := hi
        clear hi
        obtain ⟨n, hn⟩ : ∃ n, n = L.length := ⟨_, rfl⟩
        rw [← hn]
        have HL : Hid (n = L.length) := hn
        clear hn
        go_upto_region 14 with (first
          | (at_mapUpdate; refine wpList_mapUpdate_own _ rfl _ _ _ 25 rfl 9 31 law9 Yba.underlying25 asIs w.heap.size k D rfl ((HI.out.map.alloc _).alloc _) (by unfold maxLen; omega) _ _ (.string x) rfl rfl hkey (.held (tsV (x, t1, t2).2)) [] rfl ?_; intro w1 hm1 hg1))
        have hM := HI.out.mid hm1 hg1
        clear hm1 hg1 q0 q1 q2
        have HM : Hid (Mid w gN cN gT cT D L k wr.heap.size x t1 t2 w1) := hM
        have q0 := hM.e0
        have q1 : w1.cell? ⟨wr.heap.size + 1, 0, none⟩ = some (.int .i64 t1) := by rw [cell_of_row _ _ _ _ _ _ hM.bt]; rfl
        have q2 : w1.cell? ⟨wr.heap.size + 1, 1, none⟩ = some (.int .u32 t2) := by rw [cell_of_row _ _ _ _ _ _ hM.bt]; rfl
        have HF : Hid (Calls Yba.prog 6 #[.slice (some ⟨gN, 0, none⟩) n cN, .string ⟨x.toArray⟩] w1 fun e w' => ∃ r : Int, e = .returned (.int .i64 r) ∧ w' = w1 ∧ ((r = -1 ∧ x ∉ keys L) ∨ ∃ j : Nat, j < n ∧ key L j = x ∧ r = j)) := by
          rw [HL.out]
          exact (hM.find hll).mono fun _ _ ⟨a, b⟩ => by
            rcases b with ⟨rfl, h⟩ | ⟨j, h1, h2, rfl⟩
            · exact ⟨_, rfl, a, .inl ⟨rfl, h⟩⟩
            · exact ⟨_, rfl, a, .inr ⟨j, h1, h2, rfl⟩⟩
        clear hM
        go_upto_region 15 with (first | (go_at_call 6; refine HF.out.mono ?_; rintro e w2 ⟨r, rfl, hw2, hr⟩; have hw3 := hw2.symm; clear hw2; subst hw3))
        have HR : Hid ((r = -1 ∧ x ∉ keys L) ∨ ∃ j : Nat, j < n ∧ key L j = x ∧ r = j) := hr
        clear hr
        rcases HR.out with ⟨rfl, hxn⟩ | ⟨j, hj, hxj, rfl⟩
        · have HX : Hid (x ∉ keys L) := hxn
          clear hxn HR
          go_upto_region 17 with (first
            | (at_builtin; rw [HL.out]; refine HM.out.appN hll rfl (.tmp 66) (.tmp 69) rfl rfl _ rfl rfl ?_; intro gN' cN' w2 hM2))
          have HM2 : Hid (Mid2 w gN' cN' gT cT D L k wr.heap.size x t1 t2 w2) := hM2
          have q3 : w2.cell? ⟨wr.heap.size + 1, 0, none⟩ = some (.int .i64 t1) := by rw [cell_of_row _ _ _ _ _ _ hM2.bt]; rfl
          have q4 : w2.cell? ⟨wr.heap.size + 1, 1, none⟩ = some (.int .u32 t2) := by rw [cell_of_row _ _ _ _ _ _ hM2.bt]; rfl
          clear hM2 q0 q1 q2
          go_wp2_with (first
            | (at_builtin; refine HM2.out.appT hll HI.out.rel HI.out.len HI.out.sz hx HX.out rfl (.tmp 71) (.tmp 73) rfl rfl _ rfl rfl ?_; intro gT' cT' D' w3 hi3))
          go_roundw
          case rel => exact ⟨k + 1, gN', cN', gT', cT', D', L ++ [(x, t1, t2)], by omega, by go_num, by simp, by simp, hi3⟩
          case measure => simp [intOf]; omega
        · have hjL : j < L.length := by have := HL.out; omega
          obtain ⟨d1, d2⟩ := ts_cell HM.out.tss j hjL
          have f1 := HM.out.tss.frozenAt (j * 2)
          have f2 := HM.out.tss.frozenAt (j * 2 + 1)
          have hn0 : ¬ (j : Int) < 0 := by omega
          have hn1 : (0 : Int) ≤ (j : Int) := by omega
          have hj1 : (j : Int) < (n : Int) := by omega
          have HJ : Hid (j < L.length ∧ key L j = x) := ⟨hjL, hxj⟩
          have hi3 := HM.out.setT HI.out.rel HI.out.len HI.out.sz hx j hjL hxj
          have HI3 : Hid (LInv w gN cN gT cT (D.put (.string x) (.held (tsV (x, t1, t2).2))) (L.set j (x, t1, t2)) (k + 1) ((w1.setCell ⟨gT, j * 2, none⟩ (.int .i64 t1)).setCell ⟨gT, j * 2 + 1, none⟩ (.int .u32 t2))) := hi3
          clear hi3 hjL hxj HR
          go_wp2_with fail
          go_roundw
          case rel => exact ⟨k + 1, gN, cN, gT, cT, _, L.set j (x, t1, t2), by omega, by go_num, by rw [List.length_set, HL.out], by rw [List.length_set, HL.out], HI3.out⟩
          case measure => simp [intOf]; omega
      · obtain rfl : k = len := by omega
        go_wp2_with fail
        go_meet
        case rel => exact ⟨gN, cN, gT, cT, D, L, rfl, rfl, hi⟩
  case rest =>
  obtain ⟨gN, cN, gT, cT, D, L, rfl, rfl, hI2⟩ := hcut
  obtain ⟨n, hn⟩ : ∃ n, n = L.length := ⟨_, rfl⟩
  rw [← hn]
  have hn4 : n ≤ 1024 := by have := hI2.len; omega
  have HI2 : Hid (L.length = n ∧ LInv w gN cN gT cT D L len _) := ⟨hn.symm, hI2⟩
  clear hI2 hn
  iterate 2 go_step
  go_cut [18] (fun _ wx => ∃ L2 : List Ent, L2.length = n ∧ LInv w gN cN gT cT D L2 len wx ∧ (keys L2).Pairwise (fun x y => x ≤ y))
  case first =>
    have hni : (n : Int) ≤ 1024 := by omega
    go_wp2_with fail
    go_loopw [18] (fun i wr => ∃ (m : Nat) (L2 : List Ent), 1 ≤ m ∧ i = .int .i64 m ∧ L2.length = n ∧ LInv w gN cN gT cT D L2 len wr ∧ Ins L2 m m ∧ m ≤ n + 1) (fun i _ => n + 1 - (intOf i).toNat)
    case atStart => exact ⟨1, L, Nat.le_refl _, rfl, HI2.out.1, HI2.out.2, ins_start L, by omega⟩
    case round =>
      obtain ⟨m, L2, hm1, rfl, hl2, hi, hins, hmn⟩ := hrel
      have HI : Hid (L2.length = n ∧ LInv w gN cN gT cT D L2 len wr ∧ Ins L2 m m) := ⟨hl2, hi, hins⟩
      clear hl2 hi hins
      by_cases hml : m < n
      · have hm2 : (m : Int) < (n : Int) := by omega
        go_wp2_with fail
        go_loopw [19] (fun i wr => ∃ (q : Nat) (L3 : List Ent), q ≤ m ∧ i = .int .i64 q ∧ L3.length = n ∧ LInv w gN cN gT cT D L3 len wr ∧ Ins L3 m q) (fun i _ => (intOf i).toNat)
        case atStart => exact ⟨m, L2, Nat.le_refl _, rfl, HI.out.1, HI.out.2.1, HI.out.2.2⟩
        case round =>
          obtain ⟨q, L3, hqm, rfl, hl3, hi, hins⟩ := hrel
          have HI3 : Hid (L3.length = n ∧ LInv w gN cN gT cT D L3 len wr ∧ Ins L3 m q) := ⟨hl3, hi, hins⟩
          by_cases hq0 : q = 0
          · subst hq0
            clear hl3 hi hins
            go_wp2_with fail
            go_quiet (fail)
            go_wp2_with fail
            go_roundw
            case rel => exact ⟨m + 1, L3, by omega, by go_num, HI3.out.1, HI3.out.2.1.drewN _, ins_done HI3.out.2.2 hqm (.inl rfl), by omega⟩
            case measure => simp [intOf]; omega
          · have hqd : decide ((0 : Int) < (q : Int)) = true := decide_eq_true (by omega)
            have hqd2 : decide (0 < q) = true := decide_eq_true (by omega)
            have hqp : (0 : Int) < (q : Int) := by omega
            have k1 := key_cell hi.names q (by omega)
            have k2 := key_cell hi.names (q - 1) (by omega)
            have hq1 : (q : Int) < (n : Int) := by omega
            have hq2 : (q : Int) - 1 < (n : Int) := by omega
            have hq3 : (0 : Int) ≤ (q : Int) - 1 := by omega
            clear hl3 hi hins
            by_cases hlt : key L3 q < key L3 (q - 1)
            · have hb : Op.bytesLess (key L3 q) (key L3 (q - 1)) = true := by rw [bytesLess_eq]; simpa using hlt
              have HLT : Hid (key L3 q < key L3 (q - 1)) := hlt
              clear hlt
              have hqn : q < L3.length := by have := HI3.out.1; omega
              have hne1 : ¬ gN = gT := kind_ne HI3.out.2.1.names HI3.out.2.1.tss (by decide)
              have hne2 : ¬ gT = gN := fun e => hne1 e.symm
              have hlt1 : gT < wr.heap.size := (HI3.out.2.1.tss.lt gT rfl).2
              have hlt2 : ¬ gT = wr.heap.size := by omega
              have fN1 := HI3.out.2.1.names.frozenAt q
              have fN2 := HI3.out.2.1.names.frozenAt (q - 1)
              obtain ⟨d1, d2⟩ := ts_cell HI3.out.2.1.tss q hqn
              obtain ⟨d3, d4⟩ := ts_cell HI3.out.2.1.tss (q - 1) (by omega)
              have fT1 := HI3.out.2.1.tss.frozenAt (q * 2)
              have fT2 := HI3.out.2.1.tss.frozenAt (q * 2 + 1)
              have fT3 := HI3.out.2.1.tss.frozenAt ((q - 1) * 2)
              have fT4 := HI3.out.2.1.tss.frozenAt ((q - 1) * 2 + 1)
              generalize hs1 : key L3 q = s1 at k1 hb
              generalize hs2 : key L3 (q - 1) = s2 at k2 hb
              generalize ha1 : (nth L3 q).2.1 = a1 at d1
              generalize ha2 : (nth L3 q).2.2 = a2 at d2
              generalize ha3 : (nth L3 (q - 1)).2.1 = a3 at d3
              generalize ha4 : (nth L3 (q - 1)).2.2 = a4 at d4
              have HS : Hid (key L3 q = s1 ∧ key L3 (q - 1) = s2 ∧ (nth L3 q).2.1 = a1 ∧ (nth L3 q).2.2 = a2 ∧ (nth L3 (q - 1)).2.1 = a3 ∧ (nth L3 (q - 1)).2.2 = a4) := ⟨hs1, hs2, ha1, ha2, ha3, ha4⟩
              clear hs1 hs2 ha1 ha2 ha3 ha4
              go_wp2_with fail
              go_quiet (fail)
              go_wp2_with fail
              go_roundw
              case rel =>
                refine ⟨q - 1, swap L3 q, by omega, by congr 1; omega, by rw [swap_len]; exact HI3.out.1, ?_, ins_swap HI3.out.2.2 (by have := HI3.out.1; omega) hqm (by omega) HLT.out⟩
                exact LInv.swapped3 (HI3.out.2.1.drewN _) q hqn (by omega) _ HS.out
              case measure => simp [intOf]; omega
            · have hb : Op.bytesLess (key L3 q) (key L3 (q - 1)) = false := by rw [bytesLess_eq]; simpa using hlt
              have HLT : Hid (¬ key L3 q < key L3 (q - 1)) := hlt
              clear hlt
              generalize hs1 : key L3 q = s1 at k1 hb
              generalize hs2 : key L3 (q - 1) = s2 at k2 hb
              clear hs1 hs2
              go_wp2_with fail
              go_quiet (fail)
              go_wp2_with fail
              go_roundw
              case rel => exact ⟨m + 1, L3, by omega, by go_num, HI3.out.1, HI3.out.2.1.drewN _, ins_done HI3.out.2.2 hqm (.inr HLT.out), by omega⟩
              case measure => simp [intOf]; omega
      · go_wp2_with fail
        go_meet
        case rel => exact ⟨L2, HI.out.1, HI.out.2.1, ins_all HI.out.2.2 (by have := HI.out.1; omega)⟩
  case rest =>
  obtain ⟨L2, hl2, hI3, hsort⟩ := hcut
  clear HI2
  have hni : (n : Int) ≤ 1024 := by omega
  have HT : Hid (Calls Yba.prog 7 #[.agg #[.int .i64 bms, .int .u32 bn, .map (some w.heap.size), .bool wh]] (wc.alloc (.cells #[.int .i64 bms, .int .u32 bn] 31)) fun e w2 => ∃ B g c, e = .returned (.slice (some ⟨g, 0, none⟩) (n + 1) c) ∧ L2.length = n ∧ Fin w gN cN gT cT D L2 len bms bn B wc.heap.size g c w2) := by
    refine (token_map bms bn wh w.heap.size len D L2 _ (by omega) hI3.sz hI3.rel hsort (hI3.map.alloc _)).mono ?_
    rintro e w2 ⟨g, c, rfl, ho, hb⟩
    refine ⟨_, g, c, ?_, hl2, fin_start hI3 hsort _ ho hb⟩
    rw [hl2, Nat.add_comm]
  clear hl2 hI3 hsort
  go_upto_region 35 with (first | (go_at_call 7; refine HT.out.mono ?_; rintro e w2 ⟨B, g, c, rfl, hl2, hF⟩))
  have HF : Hid (L2.length = n ∧ Fin w gN cN gT cT D L2 len bms bn B wc.heap.size g c w2) := ⟨hl2, hF⟩
  obtain ⟨e1, e2, e3⟩ := hF.tok0
  obtain ⟨e4, e5⟩ := hF.bd0
  clear hF HT hl2
  go_quiet (fail)
  clear e1 e2 e3 e4 e5
  go_wp2_with fail
  go_loopw [24] (fun i wr => ∃ k : Nat, k ≤ n ∧ i = .int .i64 k ∧ Fin w gN cN gT cT D L2 len bms bn B wc.heap.size g c wr) (fun i _ => n - (intOf i).toNat)
  case atStart => exact ⟨0, by omega, rfl, HF.out.2.drewN _⟩
  case round =>
    obtain ⟨k, hk, rfl, hi⟩ := hrel
    have HI : Hid (L2.length = n ∧ Fin w gN cN gT cT D L2 len bms bn B wc.heap.size g c wr) := ⟨HF.out.1, hi⟩
    by_cases hkn : k < n
    · have hk1 : (k : Int) < (n : Int) := by omega
      have hk2 : (k : Int) + 1 < (n : Int) + 1 := by omega
      have hkL : k < L2.length := by have := HF.out.1; omega
      obtain ⟨e1, e2, e3⟩ := hi.tokAt k hkL
      obtain ⟨e4, e5⟩ := hi.tsAt k hkL
      have e6 := hi.nameAt k hkL
      clear hi HF
      generalize key L2 k = s1 at e1 e6
      generalize (nth L2 k).2.1 = a1 at e2 e4
      generalize (nth L2 k).2.2 = a2 at e3 e5
      go_wp2_with fail
      go_quiet (fail)
      go_wp2_with fail
      go_roundw
      case rel => exact ⟨k + 1, by omega, by go_num, HI.out.2.drewN _⟩
      case measure => simp [intOf]; omega
    · obtain rfl : k = n := by omega
      have hz := hi.size
      have hzk : Maps.size D = k := by rw [hz]; exact HI.out.1
      clear hi HF hz
      go_upto_region 44 with (first | (at_len; refine wpList_len_own _ rfl _ 25 rfl 9 31 Yba.underlying25 asIs w.heap.size len D rfl HI.out.2.inv.map ?_; rw [hzk]))
      go_wp2_with fail
      go_loopw [25] (fun i wr => ∃ j : Nat, j ≤ k ∧ i = .int .i64 j ∧ Fin w gN cN gT cT D L2 len bms bn B wc.heap.size g c wr) (fun i _ => k - (intOf i).toNat)
      case atStart => exact ⟨0, by omega, rfl, HI.out.2⟩
      case round =>
        obtain ⟨j, hj, rfl, hi⟩ := hrel
        by_cases hjk : j < k
        · have hk1 : (j : Int) < (k : Int) := by omega
          have hkL : j < L2.length := by have := HI.out.1; omega
          obtain ⟨e4, e5⟩ := hi.tsAt j hkL
          have e6 := hi.nameAt j hkL
          have e7 := hi.look j hkL
          have HI5 : Hid (Fin w gN cN gT cT D L2 len bms bn B wc.heap.size g c wr) := hi
          clear hi HI
          generalize key L2 j = s1 at e6 e7
          generalize (nth L2 j).2.1 = a1 at e4 e7
          generalize (nth L2 j).2.2 = a2 at e5 e7
          go_wp2_with fail
          have HI6 : Hid (Fin w gN cN gT cT D L2 len bms bn B wc.heap.size g c (wr.alloc (.cells #[.int .i64 a1, .int .u32 a2] 31))) := HI5.out.alloc _
          have y4 := (((Below.refl wr.heap.size wr).alloc (Nat.le_refl _) (.cells #[.int .i64 a1, .int .u32 a2] 31)).cell (World.block_lt_of_cell? wr _ e4)).trans e4
          have y5 := (((Below.refl wr.heap.size wr).alloc (Nat.le_refl _) (.cells #[.int .i64 a1, .int .u32 a2] 31)).cell (World.block_lt_of_cell? wr _ e5)).trans e5
          have x1 : (wr.alloc (.cells #[.int .i64 a1, .int .u32 a2] 31)).cell? ⟨wr.heap.size, 0, none⟩ = some (.int .i64 a1) := by rw [cell_of_row _ _ _ _ _ _ (heap_alloc_new wr _)]; rfl
          have x2 : (wr.alloc (.cells #[.int .i64 a1, .int .u32 a2] 31)).cell? ⟨wr.heap.size, 1, none⟩ = some (.int .u32 a2) := by rw [cell_of_row _ _ _ _ _ _ (heap_alloc_new wr _)]; rfl
          clear e4 e5 e6 e7 HI5
          generalize wr.alloc (.cells #[.int .i64 a1, .int .u32 a2] 31) = w5 at *
          go_quiet (fail)
          go_wp2_with fail
          go_roundw
          case rel => exact ⟨j + 1, by omega, by go_num, HI6.out.drewN _⟩
          case measure => simp [intOf]; omega
        · clear HI
          have HB : Hid (Below w.heap.size w wr) := hi.inv.below
          clear hi
          go_wp2_with fail
          go_ret
          exact ⟨rfl, HB.out⟩
end Go.Proofs.Ybulkcydq
