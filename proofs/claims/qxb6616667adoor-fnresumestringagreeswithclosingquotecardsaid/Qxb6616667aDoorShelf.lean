import Derived.Ground.MnProg
import Derived.Shelf.Bin.LEUint64
import Derived.Shelf.Bin.LEUint64Panics
import Derived.Shelf.Bin.ReadersZ
import Derived.Shelf.Bytes.SlIndexAt
import Derived.Shelf.Bytes.SlSearch0
import Derived.Shelf.Bytes.IndexByte
import Derived.Test.Qxb6616667aDoorProg
namespace Go.Proofs
open Go.Shelf
def Tryd.laysBin33_ren : Go.Shelf.Ren := ⟨fun | 33 => 28 | n => n, fun | 25 => 57 | 22 => 22 | 33 => 40 | 0 => 0 | 5 => 5 | 45 => 63 | n => n, fun | n => n⟩
theorem Tryd.laysBin33 : Go.Proofs.LaysBin.n33 Tryd.prog Tryd.laysBin33_ren := {
  mixed := by kernel_rfl
  f33 := Tryd.func28.trans (congrArg some (by kernel_rfl))
  t0 := Tryd.underlying0
  a0 := Tryd.isAgg0
  z0 := Tryd.sizeOf0
  v0 := Tryd.zeroValue0
  i0 := by kernel_rfl
  t5 := Tryd.underlying5
  a5 := Tryd.isAgg5
  z5 := Tryd.sizeOf5
  v5 := Tryd.zeroValue5
  i5 := by kernel_rfl
  t22 := Tryd.underlying22
  a22 := Tryd.isAgg22
  z22 := Tryd.sizeOf22
  v22 := Tryd.zeroValue22
  i22 := by kernel_rfl
  t25 := Tryd.underlying57
  a25 := Tryd.isAgg57
  z25 := Tryd.sizeOf57
  v25 := Tryd.zeroValue57
  i25 := by kernel_rfl
  t33 := Tryd.underlying40
  a33 := Tryd.isAgg40
  z33 := Tryd.sizeOf40
  v33 := Tryd.zeroValue40
  i33 := by kernel_rfl
  t45 := Tryd.underlying63
  a45 := Tryd.isAgg63
  z45 := Tryd.sizeOf63
  v45 := Tryd.zeroValue63
  i45 := by kernel_rfl }
open Go.RowKit in
theorem Tryd.binary_LE_Uint64 (g o n c : Nat) (b0 b1 b2 b3 b4 b5 b6 b7 : UInt8) (w : World) (hn : 8 ≤ n) (c0 : w.cell? ⟨g, o, none⟩ = some (.int .u8 b0.toNat)) (c1 : w.cell? ⟨g, o + 1, none⟩ = some (.int .u8 b1.toNat)) (c2 : w.cell? ⟨g, o + 2, none⟩ = some (.int .u8 b2.toNat)) (c3 : w.cell? ⟨g, o + 3, none⟩ = some (.int .u8 b3.toNat)) (c4 : w.cell? ⟨g, o + 4, none⟩ = some (.int .u8 b4.toNat)) (c5 : w.cell? ⟨g, o + 5, none⟩ = some (.int .u8 b5.toNat)) (c6 : w.cell? ⟨g, o + 6, none⟩ = some (.int .u8 b6.toNat)) (c7 : w.cell? ⟨g, o + 7, none⟩ = some (.int .u8 b7.toNat)) :
    Calls Tryd.prog 28 #[.agg #[], .slice (some ⟨g, o, none⟩) n c] w fun e w' => e = .returned (.int .u64 (Lib.leNat [b0, b1, b2, b3, b4, b5, b6, b7])) ∧ Below w.heap.size w w' := Any.binary_LE_Uint64 Tryd.laysBin33 g o n c b0 b1 b2 b3 b4 b5 b6 b7 w hn c0 c1 c2 c3 c4 c5 c6 c7
open Go.RowKit in
theorem Tryd.binary_LE_Uint64_panics (ao : Option Addr) (n c : Nat) (w : World) (hn : n < 8) (hnil : ao = none → n = 0) :
    Calls Tryd.prog 28 #[.agg #[], .slice ao n c] w fun e w' => Lib.boundsPanicked Tryd.prog 7 n e ∧ w' = (w.alloc (.cells #[] 57)).drew := Any.binary_LE_Uint64_panics Tryd.laysBin33 ao n c w hn hnil
open Go.RowKit in
theorem Tryd.binary_LE_Uint64_z (a : Addr) (n c : Nat) (zs : List Int) (w : World) (hn : 8 ≤ n) (hl : 8 ≤ zs.length) (hcell : ∀ i, i < zs.length → w.cell? (a.add i) = some (.int .u8 (zs.getD i 0))) (hw : ∀ z ∈ zs, (Lit.int .u8 z).wf = true) :
    Calls Tryd.prog 28 #[.agg #[], .slice (some a) n c] w fun e w' => e = .returned (.int .u64 (Lib.leZ (zs.take 8))) ∧ Below w.heap.size w w' := Any.binary_LE_Uint64_z Tryd.laysBin33 a n c zs w hn hl hcell hw
def Tryd.lays187_ren : Go.Shelf.Ren := ⟨fun | 187 => 24 | 255 => 32 | n => n, fun | 37 => 22 | 5 => 5 | 3 => 3 | n => n, fun | n => n⟩
theorem Tryd.lays187 : Go.Proofs.Lays.n187 Tryd.prog Tryd.lays187_ren := {
  mixed := by kernel_rfl
  f187 := Tryd.func24.trans (congrArg some (by kernel_rfl))
  f255 := Tryd.func32.trans (congrArg some (by kernel_rfl))
  t3 := Tryd.underlying3
  a3 := Tryd.isAgg3
  z3 := Tryd.sizeOf3
  v3 := Tryd.zeroValue3
  t5 := Tryd.underlying5
  a5 := Tryd.isAgg5
  z5 := Tryd.sizeOf5
  v5 := Tryd.zeroValue5
  t37 := Tryd.underlying22
  a37 := Tryd.isAgg22
  z37 := Tryd.sizeOf22
  v37 := Tryd.zeroValue22 }
open Go.RowKit Go.Lib in
theorem Tryd.bytes_IndexByte_at (a : Addr) (n c : Nat) (xs : List Int) (cv : Int) (w : World) (hx : xs.length = n) (hc : ∀ i, i < n → w.cell? (a.add i) = some (.int .u8 (xs.getD i 0))) :
    Calls Tryd.prog 24 #[.slice (some a) n c, .int .u8 cv] w fun e w' => e = .returned (.int .i64 (Lib.indexByte (Lib.bytesOf xs) cv.toNat.toUInt8)) ∧ w' = w := Any.bytes_IndexByte_at Tryd.lays187 a n c xs cv w hx hc
open Go.Proofs Go.RowKit Go.Lib in
theorem Tryd.bytes_IndexByte_bytes (b o cap : Nat) (t : ByteArray) (cv : Int) (w : World) (hc : Lib.Bytes w b o t) :
    Calls Tryd.prog 24 #[.slice (some ⟨b, o, none⟩) t.size cap, .int .u8 cv] w fun e w' => e = .returned (.int .i64 (Lib.indexByte t.data.toList cv.toNat.toUInt8)) ∧ w' = w := Any.bytes_IndexByte_bytes Tryd.lays187 b o cap t cv w hc
theorem Tryd.bytes_IndexByte (b o n c : Nat) (xs : List Int) (cv : Int) (w : World) (hx : xs.length = n) (hc : ∀ i, i < n → w.cell? ⟨b, o + i, none⟩ = some (.int .u8 (xs.getD i 0))) :
    Calls Tryd.prog 24 #[.slice (some ⟨b, o, none⟩) n c, .int .u8 cv] w fun e w' => e = .returned (.int .i64 (Lib.indexByte (Lib.bytesOf xs) cv.toNat.toUInt8)) ∧ w' = w := Any.bytes_IndexByte Tryd.lays187 b o n c xs cv w hx hc
theorem Tryd.bytes_IndexByte_nil (cv : Int) (w : World) :
    Calls Tryd.prog 24 #[.slice none 0 0, .int .u8 cv] w fun e w' => e = .returned (.int .i64 (-1)) ∧ w' = w := Any.bytes_IndexByte_nil Tryd.lays187 cv w
end Go.Proofs
