import Derived.Ground.MnProg
import Derived.Shelf.Bin.BEUint16
import Derived.Shelf.Bin.ReadersZ
import Derived.Shelf.Bytes.SlSearch0
import Derived.Shelf.Bytes.SlEqualAll
import Derived.Shelf.Bytes.Small
import Derived.Test.YbulkcxwqFmtProg
namespace Go.Proofs
open Go.Shelf
def Ybaf.laysBin36_ren : Go.Shelf.Ren := ⟨fun | 36 => 8 | n => n, fun | 37 => 35 | 22 => 22 | 23 => 33 | 0 => 0 | 5 => 5 | 45 => 27 | n => n, fun | n => n⟩
theorem Ybaf.laysBin36 : Go.Proofs.LaysBin.n36 Ybaf.prog Ybaf.laysBin36_ren := {
  mixed := by kernel_rfl
  f36 := Ybaf.func8.trans (congrArg some (by kernel_rfl))
  t0 := Ybaf.underlying0
  a0 := Ybaf.isAgg0
  z0 := Ybaf.sizeOf0
  v0 := Ybaf.zeroValue0
  i0 := by kernel_rfl
  t5 := Ybaf.underlying5
  a5 := Ybaf.isAgg5
  z5 := Ybaf.sizeOf5
  v5 := Ybaf.zeroValue5
  i5 := by kernel_rfl
  t22 := Ybaf.underlying22
  a22 := Ybaf.isAgg22
  z22 := Ybaf.sizeOf22
  v22 := Ybaf.zeroValue22
  i22 := by kernel_rfl
  t23 := Ybaf.underlying33
  a23 := Ybaf.isAgg33
  z23 := Ybaf.sizeOf33
  v23 := Ybaf.zeroValue33
  i23 := by kernel_rfl
  t37 := Ybaf.underlying35
  a37 := Ybaf.isAgg35
  z37 := Ybaf.sizeOf35
  v37 := Ybaf.zeroValue35
  i37 := by kernel_rfl
  t45 := Ybaf.underlying27
  a45 := Ybaf.isAgg27
  z45 := Ybaf.sizeOf27
  v45 := Ybaf.zeroValue27
  i45 := by kernel_rfl }
open Go.RowKit in
theorem Ybaf.binary_BE_Uint16 (g o n c : Nat) (b0 b1 : UInt8) (w : World) (hn : 2 ≤ n) (c0 : w.cell? ⟨g, o, none⟩ = some (.int .u8 b0.toNat)) (c1 : w.cell? ⟨g, o + 1, none⟩ = some (.int .u8 b1.toNat)) :
    Calls Ybaf.prog 8 #[.agg #[], .slice (some ⟨g, o, none⟩) n c] w fun e w' => e = .returned (.int .u16 (Lib.beNat [b0, b1])) ∧ Below w.heap.size w w' := Any.binary_BE_Uint16 Ybaf.laysBin36 g o n c b0 b1 w hn c0 c1
open Go.RowKit in
theorem Ybaf.binary_BE_Uint16_z (a : Addr) (n c : Nat) (zs : List Int) (w : World) (hn : 2 ≤ n) (hl : 2 ≤ zs.length) (hcell : ∀ i, i < zs.length → w.cell? (a.add i) = some (.int .u8 (zs.getD i 0))) (hw : ∀ z ∈ zs, (Lit.int .u8 z).wf = true) :
    Calls Ybaf.prog 8 #[.agg #[], .slice (some a) n c] w fun e w' => e = .returned (.int .u16 (Lib.beZ (zs.take 2))) ∧ Below w.heap.size w w' := Any.binary_BE_Uint16_z Ybaf.laysBin36 a n c zs w hn hl hcell hw
def Ybaf.lays115_ren : Go.Shelf.Ren := ⟨fun | 115 => 6 | n => n, fun | 37 => 22 | 4 => 4 | 9 => 9 | 5 => 5 | n => n, fun | n => n⟩
theorem Ybaf.lays115 : Go.Proofs.Lays.n115 Ybaf.prog Ybaf.lays115_ren := {
  mixed := by kernel_rfl
  f115 := Ybaf.func6.trans (congrArg some (by kernel_rfl))
  t4 := Ybaf.underlying4
  a4 := Ybaf.isAgg4
  z4 := Ybaf.sizeOf4
  v4 := Ybaf.zeroValue4
  t9 := Ybaf.underlying9
  a9 := Ybaf.isAgg9
  z9 := Ybaf.sizeOf9
  v9 := Ybaf.zeroValue9
  t37 := Ybaf.underlying22
  a37 := Ybaf.isAgg22
  z37 := Ybaf.sizeOf22
  v37 := Ybaf.zeroValue22 }
open Go.Proofs Go.RowKit Go.Lib in
theorem Ybaf.bytes_Equal_strs (v1 v2 : Value) (t1 t2 : ByteArray) (w : World) (h1 : (convert 22 9 v1).run Ybaf.prog w = .ok (.string t1) w) (h2 : (convert 22 9 v2).run Ybaf.prog w = .ok (.string t2) w) :
    Calls Ybaf.prog 6 #[v1, v2] w fun e w' => e = .returned (.bool (t1.toList == t2.toList)) ∧ w' = w := Any.bytes_Equal_strs Ybaf.lays115 v1 v2 t1 t2 w h1 h2
def Ybaf.laysnb115_ren : Go.Shelf.Ren := ⟨fun | 115 => 6 | n => n, fun | 37 => 22 | 4 => 4 | 9 => 9 | 5 => 5 | n => n, fun | n => n⟩
theorem Ybaf.laysnb115 : Go.Proofs.Lays.nb115 Ybaf.prog Ybaf.laysnb115_ren := {
  mixed := by kernel_rfl
  f115 := Ybaf.func6.trans (congrArg some (by kernel_rfl))
  t4 := Ybaf.underlying4
  a4 := Ybaf.isAgg4
  z4 := Ybaf.sizeOf4
  v4 := Ybaf.zeroValue4
  t9 := Ybaf.underlying9
  a9 := Ybaf.isAgg9
  z9 := Ybaf.sizeOf9
  v9 := Ybaf.zeroValue9
  t37 := Ybaf.underlying22
  a37 := Ybaf.isAgg22
  z37 := Ybaf.sizeOf22
  v37 := Ybaf.zeroValue22
  t5 := Ybaf.underlying5
  a5 := Ybaf.isAgg5
  z5 := Ybaf.sizeOf5
  v5 := Ybaf.zeroValue5 }
theorem Ybaf.bytes_Equal_all (p1 p2 : Option Addr) (n c m d : Nat) (xs ys : List Int) (w : World) (hx : xs.length = n) (hy : ys.length = m) (h1 : Lib.BytesIn w p1 n xs) (h2 : Lib.BytesIn w p2 m ys) :
    Calls Ybaf.prog 6 #[.slice p1 n c, .slice p2 m d] w fun e w' => e = .returned (.bool (Lib.bytesOf xs == Lib.bytesOf ys)) ∧ w' = w := Any.bytes_Equal_all Ybaf.laysnb115 p1 p2 n c m d xs ys w hx hy h1 h2
theorem Ybaf.bytes_Equal (v1 v2 : Value) (xs ys : List Int) (w : World) (h1 : (convert 22 9 v1).run Ybaf.prog w = .ok (.string (strOfNums xs)) w) (h2 : (convert 22 9 v2).run Ybaf.prog w = .ok (.string (strOfNums ys)) w) :
    Calls Ybaf.prog 6 #[v1, v2] w fun e w' => e = .returned (.bool (Lib.bytesOf xs == Lib.bytesOf ys)) ∧ w' = w := Any.bytes_Equal Ybaf.lays115 v1 v2 xs ys w h1 h2
end Go.Proofs
