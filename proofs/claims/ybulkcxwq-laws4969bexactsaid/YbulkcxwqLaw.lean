import Derived.Test.YbulkcxwqModel
namespace Go.Proofs.Ybulkcxwq
open Go.RowKit

theorem info5 : (Yba.prog.info? 5).map (fun i => (i.zero, i.size, i.bytes)) = some (some (.int .u8 0), 1, 1) := by kernel_rfl
theorem own_made {w : World} {B g g' n : Nat} {xs : List Value} (h : w.ownsRow B 5 1 (.slice (some ⟨g', 0, none⟩) n n) n xs) (e : g' = g) : ∃ cur : List Value, w.heap[g]? = some (.cells cur.toArray 5 (0, 0)) ∧ cur.length = n := by
  subst e
  rcases h.2 with ⟨h', _⟩ | ⟨g', cap', cur, h', _, hg, _, _, hs, _⟩
  · simp at h'
  · simp only [Value.slice.injEq, Option.some.injEq, Addr.mk.injEq, and_true, true_and] at h'
    obtain ⟨rfl, rfl⟩ := h'
    exact ⟨cur.toList, by simpa using hg, by simpa using hs⟩
theorem bytesIn_of {w w1 : World} {a0 : Option Addr} {len : Nat} {zs : List Int} (h : Lib.BytesIn w a0 len zs) (hg : ∀ a v, w.cell? a = some v → w1.cell? a = some v) : Lib.BytesIn w1 a0 len zs := fun hp => by
  obtain ⟨b, off, rfl, hc⟩ := h hp
  exact ⟨b, off, rfl, fun i hi => hg _ _ (hc i hi)⟩
theorem bytesIn_pos {w : World} {a0 dp : Option Addr} {len g : Nat} {zs : List Int} (h : Lib.BytesIn w a0 len zs) (hl : zs.length = len) (hd : dp = some ⟨g, 0, none⟩) :
    0 < (u8s zs).length → dp = some ⟨g, 0, none⟩ ∧ ∃ ad, a0 = some ad ∧ ∀ j v, (u8s zs)[j]? = some v → w.cell? (ad.add j) = some v := fun hp => by
  have hp' : 0 < len := by simpa [u8s, hl] using hp
  obtain ⟨b, off, rfl, hc⟩ := h hp'
  refine ⟨hd, _, rfl, fun j v hv => ?_⟩
  have hj : j < zs.length := by have := (List.getElem?_eq_some_iff.1 hv).1; simpa [u8s] using this
  have e : v = .int .u8 (zs.getD j 0) := by
    simp [u8s, List.getElem?_eq_getElem hj] at hv
    simp [List.getElem?_eq_getElem hj, ← hv]
  rw [show (⟨b, off, none⟩ : Addr).add j = ⟨b, off + j, none⟩ from by unfold Addr.add; split <;> simp_all, hc j (by omega), e]

/-- Behind make and copy. -/
theorem after_copy {w w1 w2 : World} {a0 : Option Addr} {len : Nat} {zs : List Int} {cur : List Value} (hin : Lib.BytesIn w a0 len zs) (hzl : zs.length = len) (hcl : cur.length = len)
    (g1 : w.grownBy w1 none) (hb2 : Below w.heap.size w1 w2) (hg2 : w2.heap[w.heap.size]? = some (.cells (splice cur 0 (u8s zs)).toArray 5 (0, 0))) :
    (∀ i, i < len → w2.cell? ⟨w.heap.size, i, none⟩ = some (.int .u8 (zs.getD i 0))) ∧ Below w.heap.size w w2 ∧ Lib.BytesIn w2 a0 len zs ∧ w.heap.size < w2.heap.size := by
  have e : splice cur 0 (u8s zs) = u8s zs := by simp [splice, u8s, hzl, hcl]
  rw [e] at hg2
  have bel : Below w.heap.size w w2 := ((Below.refl _ _).grown g1 (by simp) (by simp)).trans hb2
  refine ⟨fun i hi => ?_, bel, bytesIn_of hin fun a v h => by rw [bel.cell (World.block_lt_of_cell? w _ h)]; exact h, ?_⟩
  · rw [cell_of_row _ _ _ _ _ _ hg2]; simp [u8s, List.getElem?_eq_getElem (show i < zs.length by omega)]
  · have := (Array.getElem?_eq_some_iff.1 hg2).1; exact this

theorem uint_law {gb len n : Nat} {sh : Bool} {zs : List Int} {w2 : World} (hlen : len ≤ 1024) (hn : n ≤ 255) (hzl : zs.length = len) (hu : ∀ z ∈ zs, 0 ≤ z ∧ z ≤ 255) (c2 : ∀ i, i < len → w2.cell? ⟨gb, i, none⟩ = some (.int .u8 (zs.getD i 0))) (s2 : gb < w2.heap.size) :
    Calls Yba.prog 5 #[.pointer (some ⟨w2.heap.size, 0, none⟩), .int .i64 n] (w2.alloc (.cells #[.slice (some ⟨gb, 0, none⟩) len len, .bool sh] 25)) fun e w' => e = .returned (.int .u64 (fold64 (zs.take (min n len)))) ∧ After w2.heap.size gb len (min n len) (sh || decide (len < n)) (w2.alloc (.cells #[.slice (some ⟨gb, 0, none⟩) len len, .bool sh] 25)) w' :=
  uint_any w2.heap.size gb len n sh zs _ hlen hn s2 hzl hu (heap_alloc_new w2 _) (fun i hi => by rw [World.cell?_alloc_lt _ _ _ s2]; exact c2 i hi)

theorem eq_all {w : World} {p1 p2 : Option Addr} {n c d : Nat} {xs : List Int} (h : xs.length = n) (h1 : Lib.BytesIn w p1 n xs) (h2 : Lib.BytesIn w p2 n xs) (q : Nat) :
    Calls Yba.prog 7 #[.slice p1 n c, .slice p2 n d] (w.drewN q) fun e w' => e = .returned (.bool true) ∧ w' = w.drewN q := by
  have hd : ∀ a v, w.cell? a = some v → (w.drewN q).cell? a = some v := fun a v h => by rw [World.cell?_drewN]; exact h
  have hc := Yba.bytes_Equal_all p1 p2 n c n d xs xs (w.drewN q) h h (bytesIn_of h1 hd) (bytesIn_of h2 hd)
  simpa using hc

/-- What the law reads behind the two calls. -/
theorem tail_facts {w w2 w4 w5 : World} {a0 : Option Addr} {len k cap : Nat} {sh sh' : Bool} {zs : List Int} (hk : k ≤ len) (hzl : zs.length = len) (c2 : ∀ i, i < len → w2.cell? ⟨w.heap.size, i, none⟩ = some (.int .u8 (zs.getD i 0))) (b2 : Below w.heap.size w w2) (HI2 : Lib.BytesIn w2 a0 len zs) (s2 : w.heap.size < w2.heap.size)
    (hA : After w2.heap.size w.heap.size len k sh' (w2.alloc (.cells #[.slice (some ⟨w.heap.size, 0, none⟩) len len, .bool sh] 25)) w4) (hb5 : Below w4.heap.size w4 w5) :
    Below w.heap.size w w5 ∧ (∀ q, Calls Yba.prog 7 #[.slice (some ⟨w.heap.size, 0, none⟩) len len, .slice a0 len cap] (w5.drewN q) fun e w' => e = .returned (.bool true) ∧ w' = w5.drewN q) ∧
    ∃ off, (0 < len - k → off = k) ∧ w5.cell? ⟨w2.heap.size, 0, none⟩ = some (.slice (some ⟨w.heap.size, off, none⟩) (len - k) (len - k)) ∧ w5.cell? ⟨w2.heap.size, 1, none⟩ = some (.bool sh') ∧
      ∀ off' c q, (0 < len - k → off' = k) → Calls Yba.prog 7 #[.slice (some ⟨w.heap.size, off, none⟩) (len - k) (len - k), .slice (some ⟨w.heap.size, off', none⟩) (len - k) c] (w5.drewN q) fun e w' => e = .returned (.bool true) ∧ w' = w5.drewN q := by
  obtain ⟨hb4, off, ho, hg⟩ := hA
  have s4 := hb4.size
  simp at s4
  have hb25 : Below w2.heap.size w2 w5 := (((Below.refl _ _).alloc (Nat.le_refl _) _).trans hb4).trans (hb5.mono (by omega))
  have hk5 : ∀ a v, w2.cell? a = some v → w5.cell? a = some v := fun a v h => by rw [hb25.cell (World.block_lt_of_cell? w2 _ h)]; exact h
  have hg5 : w5.heap[w2.heap.size]? = _ := (hb5.block _ (by omega)).trans hg
  have c5 : ∀ i, i < len → w5.cell? ⟨w.heap.size, i, none⟩ = some (.int .u8 (zs.getD i 0)) := fun i hi => hk5 _ _ (c2 i hi)
  refine ⟨b2.trans (hb25.mono (by omega)), eq_all hzl (fun _ => ⟨w.heap.size, 0, rfl, fun i hi => by rw [Nat.zero_add]; exact c5 i hi⟩) (bytesIn_of HI2 hk5), off, ho, by rw [cell_of_row _ _ _ _ _ _ hg5]; rfl, by rw [cell_of_row _ _ _ _ _ _ hg5]; rfl, fun off' c q ho' => ?_⟩
  have hd : ∀ i, (zs.drop k).getD i 0 = zs.getD (k + i) 0 := fun i => by simp [List.getD_eq_getElem?_getD]
  refine eq_all (xs := zs.drop k) (by simp; omega) (fun hp => ⟨w.heap.size, off, rfl, fun i hi => ?_⟩) (fun hp => ⟨w.heap.size, off', rfl, fun i hi => ?_⟩) q
  · rw [ho hp, hd]; exact c5 _ (by omega)
  · rw [ho' hp, hd]; exact c5 _ (by omega)
theorem model_law {w w2 w4 : World} {len k : Nat} {sh sh' : Bool} {zs : List Int} (hlen : len ≤ 1024) (hu : ∀ z ∈ zs, 0 ≤ z ∧ z ≤ 255) (hk : k ≤ len) (hzl : zs.length = len) (c2 : ∀ i, i < len → w2.cell? ⟨w.heap.size, i, none⟩ = some (.int .u8 (zs.getD i 0))) (s2 : w.heap.size < w2.heap.size)
    (hA : After w2.heap.size w.heap.size len k sh' (w2.alloc (.cells #[.slice (some ⟨w.heap.size, 0, none⟩) len len, .bool sh] 25)) w4) :
    Calls Yba.prog 6 #[.slice (some ⟨w.heap.size, 0, none⟩) k len] w4 fun e w' => e = .returned (.int .u64 (fold64 (zs.take k))) ∧ Below w4.heap.size w4 w' :=
  model_any w.heap.size k len zs w4 (by omega) hk hlen (by omega) hu (fun i hi => by
    rw [hA.1.cell s2, World.cell?_alloc_lt _ _ _ s2]; exact c2 i (by omega))

theorem belN {B : Nat} {w w1 : World} (q : Nat) (h : Below B w w1) : Below B w (w1.drewN q) := by
  induction q with
  | zero => exact h
  | succ q ih => exact ih.drew

set_option maxHeartbeats 4000000 in
theorem law_any (a0 : Option Addr) (len cap n : Nat) (sh : Bool) (zs : List Int) (w : World) (hlen : len ≤ 1024) (hn : n ≤ 255) (hzl : zs.length = len) (hu : ∀ z ∈ zs, 0 ≤ z ∧ z ≤ 255) (hin : Lib.BytesIn w a0 len zs) :
    Calls Yba.prog 3 #[.slice a0 len cap, .int .u8 n, .bool sh] w fun e w' => e = .returned (.bool true) ∧ Below w.heap.size w w' := by
  obtain ⟨i0, hi0, hz0, hz1, hz2⟩ := info_parts info5
  have HI : Hid (Lib.BytesIn w a0 len zs) := hin
  clear hin
  have hl1 : (len : Int) ≤ 1024 := by omega
  go_enter Yba.func3, Yba.ntmps3
  go_upto_region 4 with (first
    | (at_make; refine wpList_make_full _ rfl (.tmp 16) (.tmp 16) 22 rfl w.heap.size 5 i0 (.int .u8 0) 1 Yba.underlying22 hi0 hz0 hz1 .i64 .i64 _ _ len rfl rfl rfl rfl (by rw [hz2]; omega) (by unfold maxLen; omega) (by simp) ?_; intro w1 o1 g1; obtain ⟨cur, hcur, hcl⟩ := own_made (g := w.heap.size) o1 (by simp)))
  have HIN1 : Hid (Lib.BytesIn w1 a0 len zs) := bytesIn_of HI.out fun a v h => g1.cell h (by simp)
  clear o1
  go_upto_region 5 with (first
    | (refine wpList_copy_splice rfl (.tmp 18) (.tmp 19) 22 22 rfl 5 Yba.underlying22 size5 _ _ len len len cap rfl rfl w.heap.size 0 cur 5 hcur (u8s zs) (by simp [u8s, hzl]) (bytesIn_pos HIN1.out hzl rfl) (by simp [u8s, hzl, hcl]) (by simp [u8s, Value.oneCell']) w.heap.size w1 (Below.refl _ _) (Nat.le_refl _) ?_; intro w2 hg2 hb2))
  obtain ⟨c2, b2, HI2, s2⟩ := after_copy HI.out hzl hcl g1 hb2 hg2.out
  clear hg2 hb2 hcur hcl HIN1 g1
  have HU : Hid (Calls Yba.prog 5 #[.pointer (some ⟨w2.heap.size, 0, none⟩), .int .i64 n] (w2.alloc (.cells #[.slice (some ⟨w.heap.size, 0, none⟩) len len, .bool sh] 25)) fun e w' => e = .returned (.int .u64 (fold64 (zs.take (min n len)))) ∧ After w2.heap.size w.heap.size len (min n len) (sh || decide (len < n)) (w2.alloc (.cells #[.slice (some ⟨w.heap.size, 0, none⟩) len len, .bool sh] 25)) w') := uint_law hlen hn hzl hu c2 s2
  have HC2 : Hid (∀ i, i < len → w2.cell? ⟨w.heap.size, i, none⟩ = some (.int .u8 (zs.getD i 0))) := c2
  have HB2 : Hid (Lib.BytesIn w2 a0 len zs) := HI2
  clear c2 HI2 HI hi0 hz0 hz1 hz2
  by_cases h : len < n
  · have h' : (len : Int) < (n : Int) := by omega
    rw [show min n len = len by omega, show (sh || decide (len < n)) = true by simp [h]] at HU
    go_wp2_with (first
      | (go_at_call 5; refine HU.out.mono ?_; rintro e w4 ⟨rfl, hA⟩; have HA : Hid (After w2.heap.size w.heap.size len len true (w2.alloc (.cells #[.slice (some ⟨w.heap.size, 0, none⟩) len len, .bool sh] 25)) w4) := hA; clear hA)
      | (go_at_call 6; refine (model_law hlen hu (Nat.le_refl _) hzl HC2.out s2 HA.out).mono ?_; rintro e w5 ⟨rfl, hb5⟩; obtain ⟨b5, HE0, off, ho, k0, k1, HR0⟩ := tail_facts (cap := cap) (Nat.le_refl _) hzl HC2.out b2 HB2.out s2 HA.out hb5; have HE : Hid (∀ q, Calls Yba.prog 7 #[.slice (some ⟨w.heap.size, 0, none⟩) len len, .slice a0 len cap] (w5.drewN q) fun e w' => e = .returned (.bool true) ∧ w' = w5.drewN q) := HE0; have HR : Hid (∀ off' c q, (0 < len - len → off' = len) → Calls Yba.prog 7 #[.slice (some ⟨w.heap.size, off, none⟩) (len - len) (len - len), .slice (some ⟨w.heap.size, off', none⟩) (len - len) c] (w5.drewN q) fun e w' => e = .returned (.bool true) ∧ w' = w5.drewN q) := HR0; clear HE0 HR0 HA hb5; rw [Nat.sub_self] at k0 HR ho; clear ho))
    go_quiet ((first | (go_at_call 7; exact Calls.quiet_of_same (HR.out _ _ _ (by omega)))))
    go_wp2_with (first | (go_at_call 7; refine (HE.out _).mono ?_; rintro e w6 ⟨rfl, rfl⟩))
    go_ret
    exact ⟨rfl, belN _ b5⟩
  by_cases h2 : n = len
  · subst h2
    rw [show min n n = n by omega, show (sh || decide (n < n)) = sh by simp] at HU
    go_wp2_with (first
      | (go_at_call 5; refine HU.out.mono ?_; rintro e w4 ⟨rfl, hA⟩; have HA : Hid (After w2.heap.size w.heap.size n n sh (w2.alloc (.cells #[.slice (some ⟨w.heap.size, 0, none⟩) n n, .bool sh] 25)) w4) := hA; clear hA)
      | (go_at_call 6; refine (model_law hlen hu (Nat.le_refl _) hzl HC2.out s2 HA.out).mono ?_; rintro e w5 ⟨rfl, hb5⟩; obtain ⟨b5, HE0, off, ho, k0, k1, HR0⟩ := tail_facts (cap := cap) (Nat.le_refl _) hzl HC2.out b2 HB2.out s2 HA.out hb5; have HE : Hid (∀ q, Calls Yba.prog 7 #[.slice (some ⟨w.heap.size, 0, none⟩) n n, .slice a0 n cap] (w5.drewN q) fun e w' => e = .returned (.bool true) ∧ w' = w5.drewN q) := HE0; have HR : Hid (∀ off' c q, (0 < n - n → off' = n) → Calls Yba.prog 7 #[.slice (some ⟨w.heap.size, off, none⟩) (n - n) (n - n), .slice (some ⟨w.heap.size, off', none⟩) (n - n) c] (w5.drewN q) fun e w' => e = .returned (.bool true) ∧ w' = w5.drewN q) := HR0; clear HE0 HR0 HA hb5; rw [Nat.sub_self] at k0 HR ho; clear ho))
    go_quiet ((first | (go_at_call 7; exact Calls.quiet_of_same (HR.out _ _ _ (by omega)))))
    go_wp2_with (first | (go_at_call 7; refine (HE.out _).mono ?_; rintro e w6 ⟨rfl, rfl⟩))
    go_ret
    exact ⟨rfl, belN _ b5⟩
  · have h' : (n : Int) < (len : Int) := by omega
    have h3 : (((len - n : Nat) : Int) != (len : Int) - (n : Int)) = false := by simp; omega
    have h4 : ¬ (len = n) := by omega
    rw [show min n len = n by omega, show (sh || decide (len < n)) = sh by simp [h]] at HU
    go_wp2_with (first
      | (go_at_call 5; refine HU.out.mono ?_; rintro e w4 ⟨rfl, hA⟩; have HA : Hid (After w2.heap.size w.heap.size len n sh (w2.alloc (.cells #[.slice (some ⟨w.heap.size, 0, none⟩) len len, .bool sh] 25)) w4) := hA; clear hA)
      | (go_at_call 6; refine (model_law hlen hu (show n ≤ len by omega) hzl HC2.out s2 HA.out).mono ?_; rintro e w5 ⟨rfl, hb5⟩; obtain ⟨b5, HE0, off, ho, k0, k1, HR0⟩ := tail_facts (cap := cap) (show n ≤ len by omega) hzl HC2.out b2 HB2.out s2 HA.out hb5; have HE : Hid (∀ q, Calls Yba.prog 7 #[.slice (some ⟨w.heap.size, 0, none⟩) len len, .slice a0 len cap] (w5.drewN q) fun e w' => e = .returned (.bool true) ∧ w' = w5.drewN q) := HE0; have HR : Hid (∀ off' c q, (0 < len - n → off' = n) → Calls Yba.prog 7 #[.slice (some ⟨w.heap.size, off, none⟩) (len - n) (len - n), .slice (some ⟨w.heap.size, off', none⟩) (len - n) c] (w5.drewN q) fun e w' => e = .returned (.bool true) ∧ w' = w5.drewN q) := HR0; clear HE0 HR0 HA hb5; obtain rfl : off = n := ho (by omega); clear ho))
    go_quiet ((first | (go_at_call 7; exact Calls.quiet_of_same (HR.out _ _ _ (fun _ => rfl)))))
    go_wp2_with (first | (go_at_call 7; refine (HE.out _).mono ?_; rintro e w6 ⟨rfl, rfl⟩))
    go_ret
    exact ⟨rfl, belN _ b5⟩

theorem law_long (a0 : Option Addr) (len cap n : Nat) (sh : Bool) (w : World) (hlen : 1024 < len) (hmax : len ≤ 9223372036854775807) :
    Calls Yba.prog 3 #[.slice a0 len cap, .int .u8 n, .bool sh] w fun e w' => e = .returned (.bool true) ∧ Below w.heap.size w w' := by
  have h1 : (1024 : Int) < (len : Int) := by omega
  go_enter Yba.func3, Yba.ntmps3
  go_wp2_with fail
  go_ret
  exact ⟨rfl, Below.refl _ _⟩
end Go.Proofs.Ybulkcxwq
