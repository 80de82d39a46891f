import Derived.Ground.MnProg
import Derived.Shelf.Bin.BEUint64
import Derived.Shelf.Bin.BEUint64Panics
import Derived.Shelf.Bin.ReadersZ
import Derived.Shelf.Bytes.SlSearch0
import Derived.Shelf.Bytes.SlEqualAll
import Derived.Shelf.Bytes.Small
import Derived.Test.YbulkcxwqProg
namespace Go.Proofs
open Go.Shelf
def Yba.laysBin42_ren : Go.Shelf.Ren := ⟨fun | 42 => 9 | n => n, fun | 37 => 36 | 22 => 22 | 33 => 26 | 0 => 0 | 5 => 5 | 45 => 31 | n => n, fun | n => n⟩
theorem Yba.laysBin42 : Go.Proofs.LaysBin.n42 Yba.prog Yba.laysBin42_ren := {
  mixed := by kernel_rfl
  f42 := Yba.func9.trans (congrArg some (by kernel_rfl))
  t0 := Yba.underlying0
  a0 := Yba.isAgg0
  z0 := Yba.sizeOf0
  v0 := Yba.zeroValue0
  i0 := by kernel_rfl
  t5 := Yba.underlying5
  a5 := Yba.isAgg5
  z5 := Yba.sizeOf5
  v5 := Yba.zeroValue5
  i5 := by kernel_rfl
  t22 := Yba.underlying22
  a22 := Yba.isAgg22
  z22 := Yba.sizeOf22
  v22 := Yba.zeroValue22
  i22 := by kernel_rfl
  t33 := Yba.underlying26
  a33 := Yba.isAgg26
  z33 := Yba.sizeOf26
  v33 := Yba.zeroValue26
  i33 := by kernel_rfl
  t37 := Yba.underlying36
  a37 := Yba.isAgg36
  z37 := Yba.sizeOf36
  v37 := Yba.zeroValue36
  i37 := by kernel_rfl
  t45 := Yba.underlying31
  a45 := Yba.isAgg31
  z45 := Yba.sizeOf31
  v45 := Yba.zeroValue31
  i45 := by kernel_rfl }
open Go.RowKit in
theorem Yba.binary_BE_Uint64 (g o n c : Nat) (b0 b1 b2 b3 b4 b5 b6 b7 : UInt8) (w : World) (hn : 8 ≤ n) (c0 : w.cell? ⟨g, o, none⟩ = some (.int .u8 b0.toNat)) (c1 : w.cell? ⟨g, o + 1, none⟩ = some (.int .u8 b1.toNat)) (c2 : w.cell? ⟨g, o + 2, none⟩ = some (.int .u8 b2.toNat)) (c3 : w.cell? ⟨g, o + 3, none⟩ = some (.int .u8 b3.toNat)) (c4 : w.cell? ⟨g, o + 4, none⟩ = some (.int .u8 b4.toNat)) (c5 : w.cell? ⟨g, o + 5, none⟩ = some (.int .u8 b5.toNat)) (c6 : w.cell? ⟨g, o + 6, none⟩ = some (.int .u8 b6.toNat)) (c7 : w.cell? ⟨g, o + 7, none⟩ = some (.int .u8 b7.toNat)) :
    Calls Yba.prog 9 #[.agg #[], .slice (some ⟨g, o, none⟩) n c] w fun e w' => e = .returned (.int .u64 (Lib.beNat [b0, b1, b2, b3, b4, b5, b6, b7])) ∧ Below w.heap.size w w' := Any.binary_BE_Uint64 Yba.laysBin42 g o n c b0 b1 b2 b3 b4 b5 b6 b7 w hn c0 c1 c2 c3 c4 c5 c6 c7
open Go.RowKit in
theorem Yba.binary_BE_Uint64_panics (ao : Option Addr) (n c : Nat) (w : World) (hn : n < 8) (hnil : ao = none → n = 0) :
    Calls Yba.prog 9 #[.agg #[], .slice ao n c] w fun e w' => Lib.boundsPanicked Yba.prog 7 n e ∧ w' = (w.alloc (.cells #[] 36)).drew := Any.binary_BE_Uint64_panics Yba.laysBin42 ao n c w hn hnil
open Go.RowKit in
theorem Yba.binary_BE_Uint64_z (a : Addr) (n c : Nat) (zs : List Int) (w : World) (hn : 8 ≤ n) (hl : 8 ≤ zs.length) (hcell : ∀ i, i < zs.length → w.cell? (a.add i) = some (.int .u8 (zs.getD i 0))) (hw : ∀ z ∈ zs, (Lit.int .u8 z).wf = true) :
    Calls Yba.prog 9 #[.agg #[], .slice (some a) n c] w fun e w' => e = .returned (.int .u64 (Lib.beZ (zs.take 8))) ∧ Below w.heap.size w w' := Any.binary_BE_Uint64_z Yba.laysBin42 a n c zs w hn hl hcell hw
def Yba.lays115_ren : Go.Shelf.Ren := ⟨fun | 115 => 7 | n => n, fun | 37 => 22 | 4 => 4 | 9 => 9 | 5 => 5 | n => n, fun | n => n⟩
theorem Yba.lays115 : Go.Proofs.Lays.n115 Yba.prog Yba.lays115_ren := {
  mixed := by kernel_rfl
  f115 := Yba.func7.trans (congrArg some (by kernel_rfl))
  t4 := Yba.underlying4
  a4 := Yba.isAgg4
  z4 := Yba.sizeOf4
  v4 := Yba.zeroValue4
  t9 := Yba.underlying9
  a9 := Yba.isAgg9
  z9 := Yba.sizeOf9
  v9 := Yba.zeroValue9
  t37 := Yba.underlying22
  a37 := Yba.isAgg22
  z37 := Yba.sizeOf22
  v37 := Yba.zeroValue22 }
open Go.Proofs Go.RowKit Go.Lib in
theorem Yba.bytes_Equal_strs (v1 v2 : Value) (t1 t2 : ByteArray) (w : World) (h1 : (convert 22 9 v1).run Yba.prog w = .ok (.string t1) w) (h2 : (convert 22 9 v2).run Yba.prog w = .ok (.string t2) w) :
    Calls Yba.prog 7 #[v1, v2] w fun e w' => e = .returned (.bool (t1.toList == t2.toList)) ∧ w' = w := Any.bytes_Equal_strs Yba.lays115 v1 v2 t1 t2 w h1 h2
def Yba.laysnb115_ren : Go.Shelf.Ren := ⟨fun | 115 => 7 | n => n, fun | 37 => 22 | 4 => 4 | 9 => 9 | 5 => 5 | n => n, fun | n => n⟩
theorem Yba.laysnb115 : Go.Proofs.Lays.nb115 Yba.prog Yba.laysnb115_ren := {
  mixed := by kernel_rfl
  f115 := Yba.func7.trans (congrArg some (by kernel_rfl))
  t4 := Yba.underlying4
  a4 := Yba.isAgg4
  z4 := Yba.sizeOf4
  v4 := Yba.zeroValue4
  t9 := Yba.underlying9
  a9 := Yba.isAgg9
  z9 := Yba.sizeOf9
  v9 := Yba.zeroValue9
  t37 := Yba.underlying22
  a37 := Yba.isAgg22
  z37 := Yba.sizeOf22
  v37 := Yba.zeroValue22
  t5 := Yba.underlying5
  a5 := Yba.isAgg5
  z5 := Yba.sizeOf5
  v5 := Yba.zeroValue5 }
theorem Yba.bytes_Equal_all (p1 p2 : Option Addr) (n c m d : Nat) (xs ys : List Int) (w : World) (hx : xs.length = n) (hy : ys.length = m) (h1 : Lib.BytesIn w p1 n xs) (h2 : Lib.BytesIn w p2 m ys) :
    Calls Yba.prog 7 #[.slice p1 n c, .slice p2 m d] w fun e w' => e = .returned (.bool (Lib.bytesOf xs == Lib.bytesOf ys)) ∧ w' = w := Any.bytes_Equal_all Yba.laysnb115 p1 p2 n c m d xs ys w hx hy h1 h2
theorem Yba.bytes_Equal (v1 v2 : Value) (xs ys : List Int) (w : World) (h1 : (convert 22 9 v1).run Yba.prog w = .ok (.string (strOfNums xs)) w) (h2 : (convert 22 9 v2).run Yba.prog w = .ok (.string (strOfNums ys)) w) :
    Calls Yba.prog 7 #[v1, v2] w fun e w' => e = .returned (.bool (Lib.bytesOf xs == Lib.bytesOf ys)) ∧ w' = w := Any.bytes_Equal Yba.lays115 v1 v2 xs ys w h1 h2
end Go.Proofs
