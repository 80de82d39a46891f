import Derived.Shelf.Strconv.Itoa0
import Derived.Shelf.Strconv.Itoa1
import Derived.Shelf.LaysM
import Derived.Shelf.Strconv.Itoa2
import Derived.Shelf.Strconv.AppendUint10
import Derived.Shelf.Strconv.AppendInt10
import Derived.Shelf.Bits.Mul64
import Derived.Shelf.Bytes.SlSearch0
import Derived.Shelf.Bytes.SlEqualAll
import Derived.Shelf.Bytes.Small
import Derived.Test.YbulkcxwcDoorProg
namespace Go.Proofs
open Go.Shelf
def Ybad.lays129_ren : Go.Shelf.Ren := ⟨fun | 129 => 18 | n => n, fun | 53 => 30 | 3 => 3 | 4 => 4 | 46 => 23 | 5 => 5 | 9 => 9 | n => n, fun | n => n⟩
theorem Ybad.lays129 : Go.Proofs.Lays.n129 Ybad.prog Ybad.lays129_ren := {
  mixed := by kernel_rfl
  f129 := Ybad.func18.trans (congrArg some (by kernel_rfl))
  t3 := Ybad.underlying3
  a3 := Ybad.isAgg3
  z3 := Ybad.sizeOf3
  v3 := Ybad.zeroValue3
  t4 := Ybad.underlying4
  a4 := Ybad.isAgg4
  z4 := Ybad.sizeOf4
  v4 := Ybad.zeroValue4
  t5 := Ybad.underlying5
  a5 := Ybad.isAgg5
  z5 := Ybad.sizeOf5
  v5 := Ybad.zeroValue5
  t9 := Ybad.underlying9
  a9 := Ybad.isAgg9
  z9 := Ybad.sizeOf9
  v9 := Ybad.zeroValue9
  t46 := Ybad.underlying23
  a46 := Ybad.isAgg23
  z46 := Ybad.sizeOf23
  v46 := Ybad.zeroValue23
  t53 := Ybad.underlying30
  a53 := Ybad.isAgg30
  z53 := Ybad.sizeOf30
  v53 := Ybad.zeroValue30 }
theorem Ybad.bits_Len64 (x : Int) (w : World) (h0 : 0 ≤ x) (h1 : x ≤ 18446744073709551615) :
    Calls Ybad.prog 18 #[.int .u64 x] w fun e w' => e = .returned (.int .i64 (Lib.bitLen x.toNat)) ∧ w' = w := Any.bits_Len64 Ybad.lays129 x w h0 h1
def Ybad.lays317_ren : Go.Shelf.Ren := ⟨fun | 317 => 17 | n => n, fun | 3 => 3 | 46 => 23 | n => n, fun | n => n⟩
theorem Ybad.lays317 : Go.Proofs.Lays.n317 Ybad.prog Ybad.lays317_ren := {
  mixed := by kernel_rfl
  f317 := Ybad.func17.trans (congrArg some (by kernel_rfl))
  t3 := Ybad.underlying3
  a3 := Ybad.isAgg3
  z3 := Ybad.sizeOf3
  v3 := Ybad.zeroValue3
  t46 := Ybad.underlying23
  a46 := Ybad.isAgg23
  z46 := Ybad.sizeOf23
  v46 := Ybad.zeroValue23 }
open Go.Lib in
theorem Ybad.internal_strconv_log10Pow2 (x : Nat) (h : x ≤ 64) (w : World) :
    Calls Ybad.prog 17 #[.int .i64 x] w fun e w' => e = .returned (.int .i64 (Lib.l10 x)) ∧ w' = w := Any.internal_strconv_log10Pow2 Ybad.lays317 x h w
def Ybad.lays318_ren : Go.Shelf.Ren := ⟨fun | 318 => 19 | n => n, fun | 3 => 3 | 4 => 4 | n => n, fun | n => n⟩
theorem Ybad.lays318 : Go.Proofs.Lays.n318 Ybad.prog Ybad.lays318_ren := {
  mixed := by kernel_rfl
  f318 := Ybad.func19.trans (congrArg some (by kernel_rfl))
  t3 := Ybad.underlying3
  a3 := Ybad.isAgg3
  z3 := Ybad.sizeOf3
  v3 := Ybad.zeroValue3
  t4 := Ybad.underlying4
  a4 := Ybad.isAgg4
  z4 := Ybad.sizeOf4
  v4 := Ybad.zeroValue4 }
open Go.Lib in
theorem Ybad.internal_strconv_bool2_int (b : Bool) (w : World) :
    Calls Ybad.prog 19 #[.bool b] w fun e w' => e = .returned (.int .i64 (if b then 1 else 0)) ∧ w' = w := Any.internal_strconv_bool2_int Ybad.lays318 b w
def Ybad.lays283_ren : Go.Shelf.Ren := ⟨fun | 283 => 13 | n => n, fun | 3 => 3 | 9 => 9 | 4 => 4 | n => n, fun | n => n⟩
theorem Ybad.lays283 : Go.Proofs.Lays.n283 Ybad.prog Ybad.lays283_ren := {
  mixed := by kernel_rfl
  f283 := Ybad.func13.trans (congrArg some (by kernel_rfl))
  t3 := Ybad.underlying3
  a3 := Ybad.isAgg3
  z3 := Ybad.sizeOf3
  v3 := Ybad.zeroValue3
  t4 := Ybad.underlying4
  a4 := Ybad.isAgg4
  z4 := Ybad.sizeOf4
  v4 := Ybad.zeroValue4
  t9 := Ybad.underlying9
  a9 := Ybad.isAgg9
  z9 := Ybad.sizeOf9
  v9 := Ybad.zeroValue9 }
open Go.Lib in
theorem Ybad.internal_strconv_small (i : Nat) (h : i < 100) (w : World) :
    Calls Ybad.prog 13 #[.int .i64 i] w fun e w' => e = .returned (.string ⟨(Lib.decDigits i).toArray⟩) ∧ w' = w := Any.internal_strconv_small Ybad.lays283 i h w
def Ybad.laysM284_ren : Go.Shelf.Ren := ⟨fun | 284 => 14 | 129 => 18 | 317 => 17 | 318 => 19 | n => n, fun | 53 => 30 | 3 => 3 | 212 => 48 | 0 => 0 | 4 => 4 | 46 => 23 | 5 => 5 | 9 => 9 | n => n, fun | 17 => 0 | n => n⟩
theorem Ybad.laysM284 : Go.Proofs.LaysM.n284 Ybad.prog Ybad.laysM284_ren := {
  mixed := by kernel_rfl
  f129 := Ybad.func18.trans (congrArg some (by kernel_rfl))
  f284 := Ybad.func14.trans (congrArg some (by kernel_rfl))
  f317 := Ybad.func17.trans (congrArg some (by kernel_rfl))
  f318 := Ybad.func19.trans (congrArg some (by kernel_rfl))
  t0 := Ybad.underlying0
  a0 := Ybad.isAgg0
  z0 := Ybad.sizeOf0
  v0 := Ybad.zeroValue0
  t3 := Ybad.underlying3
  a3 := Ybad.isAgg3
  z3 := Ybad.sizeOf3
  v3 := Ybad.zeroValue3
  t4 := Ybad.underlying4
  a4 := Ybad.isAgg4
  z4 := Ybad.sizeOf4
  v4 := Ybad.zeroValue4
  t5 := Ybad.underlying5
  a5 := Ybad.isAgg5
  z5 := Ybad.sizeOf5
  v5 := Ybad.zeroValue5
  t9 := Ybad.underlying9
  a9 := Ybad.isAgg9
  z9 := Ybad.sizeOf9
  v9 := Ybad.zeroValue9
  t46 := Ybad.underlying23
  a46 := Ybad.isAgg23
  z46 := Ybad.sizeOf23
  v46 := Ybad.zeroValue23
  t53 := Ybad.underlying30
  a53 := Ybad.isAgg30
  z53 := Ybad.sizeOf30
  v53 := Ybad.zeroValue30
  t212 := Ybad.underlying48
  a212 := Ybad.isAgg48
  z212 := Ybad.sizeOf48
  v212 := Ybad.zeroValue48
  g17 := by kernel_rfl
  i0 := by kernel_rfl
  i3 := by kernel_rfl
  i4 := by kernel_rfl
  i5 := by kernel_rfl
  i9 := by kernel_rfl
  i46 := by kernel_rfl
  i53 := by kernel_rfl
  i212 := by kernel_rfl
  m17 := by kernel_rfl }
open Go.Lib in
theorem Ybad.internal_strconv_numDigits (u : Nat) (h1 : 1 ≤ u) (h2 : u < 18446744073709551616) (w : World) (htab : Lib.TabIs Ybad.prog w "internal/strconv.uint64pow10" .u64 Lib.pow10Tab) :
    Calls Ybad.prog 14 #[.int .u64 u] w fun e w' => e = .returned (.int .i64 (Lib.nDigits u)) ∧ w' = w := Any.internal_strconv_numDigits Ybad.laysM284 u h1 h2 w htab
def Ybad.lays285_ren : Go.Shelf.Ren := ⟨fun | 285 => 15 | n => n, fun | 37 => 22 | 53 => 30 | 3 => 3 | 4 => 4 | 51 => 49 | 9 => 9 | 5 => 5 | 0 => 0 | n => n, fun | n => n⟩
theorem Ybad.lays285 : Go.Proofs.Lays.n285 Ybad.prog Ybad.lays285_ren := {
  mixed := by kernel_rfl
  f285 := Ybad.func15.trans (congrArg some (by kernel_rfl))
  t0 := Ybad.underlying0
  a0 := Ybad.isAgg0
  z0 := Ybad.sizeOf0
  v0 := Ybad.zeroValue0
  t3 := Ybad.underlying3
  a3 := Ybad.isAgg3
  z3 := Ybad.sizeOf3
  v3 := Ybad.zeroValue3
  t4 := Ybad.underlying4
  a4 := Ybad.isAgg4
  z4 := Ybad.sizeOf4
  v4 := Ybad.zeroValue4
  t5 := Ybad.underlying5
  a5 := Ybad.isAgg5
  z5 := Ybad.sizeOf5
  v5 := Ybad.zeroValue5
  t9 := Ybad.underlying9
  a9 := Ybad.isAgg9
  z9 := Ybad.sizeOf9
  v9 := Ybad.zeroValue9
  t37 := Ybad.underlying22
  a37 := Ybad.isAgg22
  z37 := Ybad.sizeOf22
  v37 := Ybad.zeroValue22
  t51 := Ybad.underlying49
  a51 := Ybad.isAgg49
  z51 := Ybad.sizeOf49
  v51 := Ybad.zeroValue49
  t53 := Ybad.underlying30
  a53 := Ybad.isAgg30
  z53 := Ybad.sizeOf30
  v53 := Ybad.zeroValue30 }
open Go.RowKit Go.Sort Go.Lib in
theorem Ybad.internal_strconv_formatBase10 (blk off cap : Nat) (u : Nat) (d : Array UInt8) (w : World) (hH : Holds (fun (b : UInt8) => Value.int .u8 (b.toNat : Int)) w blk off d) (hu : u < 10 ^ d.size) (hu64 : u < 18446744073709551616) (hsz : d.size < 4611686018427387904) :
    Calls Ybad.prog 15 #[.slice (some ⟨blk, off, none⟩) d.size cap, .int .u64 u] w fun e w' =>
      e = .returned (.tuple #[]) ∧ ∃ (n v' : Nat) (dk : Array UInt8), w' = (putRow (fun (b : UInt8) => Value.int .u8 (b.toNat : Int)) w blk off dk).drewN n ∧ FmtInv d.size u 0 v' dk := Any.internal_strconv_formatBase10 Ybad.lays285 blk off cap u d w hH hu hu64 hsz
def Ybad.laysM288_ren : Go.Shelf.Ren := ⟨fun | 288 => 12 | 283 => 13 | 284 => 14 | 285 => 15 | 286 => 16 | 129 => 18 | 317 => 17 | 318 => 19 | 319 => 20 | 320 => 21 | 337 => 22 | 338 => 23 | n => n, fun | 37 => 22 | 53 => 30 | 3 => 3 | 4 => 4 | 9 => 9 | 171 => 41 | 0 => 0 | 173 => 44 | 212 => 48 | 51 => 49 | 5 => 5 | 20 => 20 | 213 => 50 | 46 => 23 | 232 => 54 | 233 => 32 | n => n, fun | 17 => 0 | 18 => 1 | 19 => 2 | n => n⟩
theorem Ybad.laysM288 : Go.Proofs.LaysM.n288 Ybad.prog Ybad.laysM288_ren := {
  mixed := by kernel_rfl
  f129 := Ybad.func18.trans (congrArg some (by kernel_rfl))
  f283 := Ybad.func13.trans (congrArg some (by kernel_rfl))
  f284 := Ybad.func14.trans (congrArg some (by kernel_rfl))
  f285 := Ybad.func15.trans (congrArg some (by kernel_rfl))
  f286 := Ybad.func16.trans (congrArg some (by kernel_rfl))
  f288 := Ybad.func12.trans (congrArg some (by kernel_rfl))
  f317 := Ybad.func17.trans (congrArg some (by kernel_rfl))
  f318 := Ybad.func19.trans (congrArg some (by kernel_rfl))
  f319 := Ybad.func20.trans (congrArg some (by kernel_rfl))
  f320 := Ybad.func21.trans (congrArg some (by kernel_rfl))
  f337 := Ybad.func22.trans (congrArg some (by kernel_rfl))
  f338 := Ybad.func23.trans (congrArg some (by kernel_rfl))
  t0 := Ybad.underlying0
  a0 := Ybad.isAgg0
  z0 := Ybad.sizeOf0
  v0 := Ybad.zeroValue0
  t3 := Ybad.underlying3
  a3 := Ybad.isAgg3
  z3 := Ybad.sizeOf3
  v3 := Ybad.zeroValue3
  t4 := Ybad.underlying4
  a4 := Ybad.isAgg4
  z4 := Ybad.sizeOf4
  v4 := Ybad.zeroValue4
  t5 := Ybad.underlying5
  a5 := Ybad.isAgg5
  z5 := Ybad.sizeOf5
  v5 := Ybad.zeroValue5
  t9 := Ybad.underlying9
  a9 := Ybad.isAgg9
  z9 := Ybad.sizeOf9
  v9 := Ybad.zeroValue9
  t20 := Ybad.underlying20
  a20 := Ybad.isAgg20
  z20 := Ybad.sizeOf20
  v20 := Ybad.zeroValue20
  t37 := Ybad.underlying22
  a37 := Ybad.isAgg22
  z37 := Ybad.sizeOf22
  v37 := Ybad.zeroValue22
  t46 := Ybad.underlying23
  a46 := Ybad.isAgg23
  z46 := Ybad.sizeOf23
  v46 := Ybad.zeroValue23
  t51 := Ybad.underlying49
  a51 := Ybad.isAgg49
  z51 := Ybad.sizeOf49
  v51 := Ybad.zeroValue49
  t53 := Ybad.underlying30
  a53 := Ybad.isAgg30
  z53 := Ybad.sizeOf30
  v53 := Ybad.zeroValue30
  t171 := Ybad.underlying41
  a171 := Ybad.isAgg41
  z171 := Ybad.sizeOf41
  v171 := Ybad.zeroValue41
  t173 := Ybad.underlying44
  a173 := Ybad.isAgg44
  z173 := Ybad.sizeOf44
  v173 := Ybad.zeroValue44
  t212 := Ybad.underlying48
  a212 := Ybad.isAgg48
  z212 := Ybad.sizeOf48
  v212 := Ybad.zeroValue48
  t213 := Ybad.underlying50
  a213 := Ybad.isAgg50
  z213 := Ybad.sizeOf50
  t232 := Ybad.underlying54
  a232 := Ybad.isAgg54
  z232 := Ybad.sizeOf54
  v232 := Ybad.zeroValue54
  t233 := Ybad.underlying32
  a233 := Ybad.isAgg32
  z233 := Ybad.sizeOf32
  v233 := Ybad.zeroValue32
  g17 := by kernel_rfl
  g18 := by kernel_rfl
  g19 := by kernel_rfl
  i0 := by kernel_rfl
  i3 := by kernel_rfl
  i4 := by kernel_rfl
  i5 := by kernel_rfl
  i9 := by kernel_rfl
  i20 := by kernel_rfl
  i37 := by kernel_rfl
  i46 := by kernel_rfl
  i51 := by kernel_rfl
  i53 := by kernel_rfl
  i171 := by kernel_rfl
  i173 := by kernel_rfl
  i212 := by kernel_rfl
  i232 := by kernel_rfl
  i233 := by kernel_rfl
  m17 := by kernel_rfl
  m18 := by kernel_rfl
  m19 := by kernel_rfl }
open Go.RowKit Go.Sort Go.Lib in
theorem Ybad.internal_strconv_AppendUint_10_small (B n u : Nat) (hu : u < 100) (sv : Value) (xs : List Value) (w : World) (hown : w.ownsRow B 5 1 sv n xs) (hBw : B ≤ w.heap.size) (hlim : n + 20 ≤ 140737488355328) :
    Calls Ybad.prog 12 #[sv, .int .u64 u, .int .i64 10] w fun e w' => ∃ v', e = .returned v' ∧ w'.ownsRow B 5 1 v' (n + (Lib.decDigits u).length) (xs ++ Lib.byteCells (Lib.decDigits u)) ∧ Below B w w' ∧ Lib.OthersKept 5 none w w' := Any.internal_strconv_AppendUint_10_small Ybad.laysM288 B n u hu sv xs w hown hBw hlim
open Go.RowKit Go.Sort Go.Lib in
theorem Ybad.internal_strconv_AppendUint_10_big (B n u : Nat) (hu : 100 ≤ u) (hu64 : u < 18446744073709551616) (sv : Value) (xs : List Value) (w : World) (hown : w.ownsRow B 5 1 sv n xs) (hBw : B ≤ w.heap.size) (hlim : n + 20 ≤ 140737488355328) (htab : Lib.TabIs Ybad.prog w "internal/strconv.uint64pow10" .u64 Lib.pow10Tab) :
    Calls Ybad.prog 12 #[sv, .int .u64 u, .int .i64 10] w fun e w' => ∃ v', e = .returned v' ∧ w'.ownsRow B 5 1 v' (n + (Lib.decDigits u).length) (xs ++ Lib.byteCells (Lib.decDigits u)) ∧ Below B w w' ∧ Lib.OthersKept 5 none w w' := Any.internal_strconv_AppendUint_10_big Ybad.laysM288 B n u hu hu64 sv xs w hown hBw hlim htab
open Go.RowKit Go.Sort Go.Lib in
theorem Ybad.internal_strconv_AppendUint_10 (B n u : Nat) (hu64 : u < 18446744073709551616) (sv : Value) (xs : List Value) (w : World) (hown : w.ownsRow B 5 1 sv n xs) (hBw : B ≤ w.heap.size) (hlim : n + 20 ≤ 140737488355328) (htab : Lib.TabIs Ybad.prog w "internal/strconv.uint64pow10" .u64 Lib.pow10Tab) :
    Calls Ybad.prog 12 #[sv, .int .u64 u, .int .i64 10] w fun e w' => ∃ v', e = .returned v' ∧ w'.ownsRow B 5 1 v' (n + (Lib.decDigits u).length) (xs ++ Lib.byteCells (Lib.decDigits u)) ∧ Below B w w' ∧ Lib.OthersKept 5 none w w' := Any.internal_strconv_AppendUint_10 Ybad.laysM288 B n u hu64 sv xs w hown hBw hlim htab
def Ybad.lays264_ren : Go.Shelf.Ren := ⟨fun | 264 => 11 | n => n, fun | 53 => 30 | 46 => 23 | n => n, fun | n => n⟩
theorem Ybad.lays264 : Go.Proofs.Lays.n264 Ybad.prog Ybad.lays264_ren := {
  mixed := by kernel_rfl
  f264 := Ybad.func11.trans (congrArg some (by kernel_rfl))
  t46 := Ybad.underlying23
  a46 := Ybad.isAgg23
  z46 := Ybad.sizeOf23
  v46 := Ybad.zeroValue23
  t53 := Ybad.underlying30
  a53 := Ybad.isAgg30
  z53 := Ybad.sizeOf30
  v53 := Ybad.zeroValue30 }
open Go.RowKit Go.Lib in
theorem Ybad.bits_Mul64 (x y : Nat) (hx : x < 18446744073709551616) (hy : y < 18446744073709551616) (w : World) :
    Calls Ybad.prog 11 #[.int .u64 x, .int .u64 y] w fun e w' => e = .returned (.tuple #[.int .u64 ((x * y / 18446744073709551616 : Nat) : Int), .int .u64 ((x * y % 18446744073709551616 : Nat) : Int)]) ∧ w' = w := Any.bits_Mul64 Ybad.lays264 x y hx hy w
def Ybad.lays115_ren : Go.Shelf.Ren := ⟨fun | 115 => 5 | n => n, fun | 37 => 22 | 4 => 4 | 9 => 9 | 5 => 5 | n => n, fun | n => n⟩
theorem Ybad.lays115 : Go.Proofs.Lays.n115 Ybad.prog Ybad.lays115_ren := {
  mixed := by kernel_rfl
  f115 := Ybad.func5.trans (congrArg some (by kernel_rfl))
  t4 := Ybad.underlying4
  a4 := Ybad.isAgg4
  z4 := Ybad.sizeOf4
  v4 := Ybad.zeroValue4
  t9 := Ybad.underlying9
  a9 := Ybad.isAgg9
  z9 := Ybad.sizeOf9
  v9 := Ybad.zeroValue9
  t37 := Ybad.underlying22
  a37 := Ybad.isAgg22
  z37 := Ybad.sizeOf22
  v37 := Ybad.zeroValue22 }
open Go.Proofs Go.RowKit Go.Lib in
theorem Ybad.bytes_Equal_strs (v1 v2 : Value) (t1 t2 : ByteArray) (w : World) (h1 : (convert 22 9 v1).run Ybad.prog w = .ok (.string t1) w) (h2 : (convert 22 9 v2).run Ybad.prog w = .ok (.string t2) w) :
    Calls Ybad.prog 5 #[v1, v2] w fun e w' => e = .returned (.bool (t1.toList == t2.toList)) ∧ w' = w := Any.bytes_Equal_strs Ybad.lays115 v1 v2 t1 t2 w h1 h2
def Ybad.laysnb115_ren : Go.Shelf.Ren := ⟨fun | 115 => 5 | n => n, fun | 37 => 22 | 4 => 4 | 9 => 9 | 5 => 5 | n => n, fun | n => n⟩
theorem Ybad.laysnb115 : Go.Proofs.Lays.nb115 Ybad.prog Ybad.laysnb115_ren := {
  mixed := by kernel_rfl
  f115 := Ybad.func5.trans (congrArg some (by kernel_rfl))
  t4 := Ybad.underlying4
  a4 := Ybad.isAgg4
  z4 := Ybad.sizeOf4
  v4 := Ybad.zeroValue4
  t9 := Ybad.underlying9
  a9 := Ybad.isAgg9
  z9 := Ybad.sizeOf9
  v9 := Ybad.zeroValue9
  t37 := Ybad.underlying22
  a37 := Ybad.isAgg22
  z37 := Ybad.sizeOf22
  v37 := Ybad.zeroValue22
  t5 := Ybad.underlying5
  a5 := Ybad.isAgg5
  z5 := Ybad.sizeOf5
  v5 := Ybad.zeroValue5 }
theorem Ybad.bytes_Equal_all (p1 p2 : Option Addr) (n c m d : Nat) (xs ys : List Int) (w : World) (hx : xs.length = n) (hy : ys.length = m) (h1 : Lib.BytesIn w p1 n xs) (h2 : Lib.BytesIn w p2 m ys) :
    Calls Ybad.prog 5 #[.slice p1 n c, .slice p2 m d] w fun e w' => e = .returned (.bool (Lib.bytesOf xs == Lib.bytesOf ys)) ∧ w' = w := Any.bytes_Equal_all Ybad.laysnb115 p1 p2 n c m d xs ys w hx hy h1 h2
theorem Ybad.bytes_Equal (v1 v2 : Value) (xs ys : List Int) (w : World) (h1 : (convert 22 9 v1).run Ybad.prog w = .ok (.string (strOfNums xs)) w) (h2 : (convert 22 9 v2).run Ybad.prog w = .ok (.string (strOfNums ys)) w) :
    Calls Ybad.prog 5 #[v1, v2] w fun e w' => e = .returned (.bool (Lib.bytesOf xs == Lib.bytesOf ys)) ∧ w' = w := Any.bytes_Equal Ybad.lays115 v1 v2 xs ys w h1 h2
end Go.Proofs
