import Derived.Shelf.Lays7
import Derived.Shelf.Spec.TrailingZeros
import Derived.Test.Qxb6616667aDoorProg
namespace Go.Proofs
open Go.Shelf
def Tryd.lays29_ren : Go.Shelf.Ren := ⟨fun | 29 => 31 | n => n, fun | 22 => 40 | 3 => 3 | 4 => 4 | 25 => 63 | 54 => 64 | 0 => 0 | 5 => 5 | n => n, fun | 1 => 1 | n => n⟩
theorem Tryd.lays29 : Go.Proofs.Lays7.n29 Tryd.prog Tryd.lays29_ren := {
  mixed := by kernel_rfl
  f29 := Tryd.func31.trans (congrArg some (by kernel_rfl))
  t0 := Tryd.underlying0
  a0 := Tryd.isAgg0
  z0 := Tryd.sizeOf0
  v0 := Tryd.zeroValue0
  i0 := by kernel_rfl
  t3 := Tryd.underlying3
  a3 := Tryd.isAgg3
  z3 := Tryd.sizeOf3
  v3 := Tryd.zeroValue3
  i3 := by kernel_rfl
  t4 := Tryd.underlying4
  a4 := Tryd.isAgg4
  z4 := Tryd.sizeOf4
  v4 := Tryd.zeroValue4
  i4 := by kernel_rfl
  t5 := Tryd.underlying5
  a5 := Tryd.isAgg5
  z5 := Tryd.sizeOf5
  v5 := Tryd.zeroValue5
  i5 := by kernel_rfl
  t22 := Tryd.underlying40
  a22 := Tryd.isAgg40
  z22 := Tryd.sizeOf40
  v22 := Tryd.zeroValue40
  i22 := by kernel_rfl
  t25 := Tryd.underlying63
  a25 := Tryd.isAgg63
  z25 := Tryd.sizeOf63
  v25 := Tryd.zeroValue63
  i25 := by kernel_rfl
  t54 := Tryd.underlying64
  a54 := Tryd.isAgg64
  z54 := Tryd.sizeOf64
  g1 := by kernel_rfl }
theorem Tryd.bits_TrailingZeros64 (x : Nat) (hx : x < 18446744073709551616) (w : World) (hT : x ≠ 0 → TabAt 1 Lib.deBruijn64tab w) :
    Calls Tryd.prog 31 #[.int .u64 x] w fun e w' => e = .returned (.int .i64 (Lib.ctz 64 x)) ∧ w' = w := Any7.bits_TrailingZeros64 Tryd.lays29 x hx w hT
end Go.Proofs
