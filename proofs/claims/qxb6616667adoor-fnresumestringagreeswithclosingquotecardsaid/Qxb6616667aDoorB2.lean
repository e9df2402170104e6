import Derived.Test.Qxb6616667aDoorChecked
import Derived.Test.Qxb6616667aDoorShelf
import Derived.Test.Qxb6616667aDoorTz
import Derived.Test.Qxb6616667aDoorB1
import Derived.WalkKit
import Derived.Below
import Derived.Laws.Bits64b
import Derived.Laws.BitsAllLaws
import Derived.Deep.QuietTactic
import Derived.BigQuiet
import Derived.RegionTactic
import Derived.BigRegion
import Derived.Deep.RegionWith
import Derived.Lib.Builder
namespace Go.Proofs.Qxb6616667aDoor
open Go.RowKit

theorem Hid.mk' {p : Prop} (h : p) : Hid p := h
theorem ret_int {k : IntKind} {a b : Int} (h : a = b) : Ending.returned (.int k a) = .returned (.int k b) := by rw [h]

theorem pow8 : 256 ^ 8 = 18446744073709551616 := by decide
theorem rep8 : rep 8 = 72340172838076673 := by decide
theorem mark_form (c d x : Nat) (h : c * 72340172838076673 + d = 18446744073709551616) :
    mark c 8 x = (((x + d) % 18446744073709551616) &&& (18446744073709551615 - x)) &&& 9259542123273814144 := by
  unfold mark
  rw [pow8, rep8]
  have e : x + 18446744073709551616 - c * 72340172838076673 = x + d := by omega
  rw [e]

theorem mark1_eq (x : Nat) (hx : x < 18446744073709551616) :
    bits .and .u64 (bits .andNot .u64 (IntKind.u64.wrap ((x : Int) - 72340172838076673)) (x : Int)) 9259542123273814144 = (mark 1 8 x : Int) := by
  have e1 := wrap_sub_u64_nat x 72340172838076673 (18446744073709551616 - 72340172838076673) (by decide)
  have e0 : ((72340172838076673 : Nat) : Int) = 72340172838076673 := rfl
  rw [e0] at e1
  have hm : (x + (18446744073709551616 - 72340172838076673)) % 18446744073709551616 < 18446744073709551616 := Nat.mod_lt _ (by decide)
  have h9 : (9259542123273814144 : Int) = ((9259542123273814144 : Nat) : Int) := rfl
  rw [e1, u64_andNot_nat _ _ hm hx, h9, bits_and_u64_nat _ _ (Nat.lt_of_le_of_lt Nat.and_le_left hm) (by decide), mark_form 1 (18446744073709551616 - 72340172838076673) x (by decide)]
theorem mark32_eq (x : Nat) (hx : x < 18446744073709551616) :
    bits .and .u64 (bits .andNot .u64 (IntKind.u64.wrap ((x : Int) - 2314885530818453536)) (x : Int)) 9259542123273814144 = (mark 32 8 x : Int) := by
  have e1 := wrap_sub_u64_nat x 2314885530818453536 (18446744073709551616 - 2314885530818453536) (by decide)
  have e0 : ((2314885530818453536 : Nat) : Int) = 2314885530818453536 := rfl
  rw [e0] at e1
  have hm : (x + (18446744073709551616 - 2314885530818453536)) % 18446744073709551616 < 18446744073709551616 := Nat.mod_lt _ (by decide)
  have h9 : (9259542123273814144 : Int) = ((9259542123273814144 : Nat) : Int) := rfl
  rw [e1, u64_andNot_nat _ _ hm hx, h9, bits_and_u64_nat _ _ (Nat.lt_of_le_of_lt Nat.and_le_left hm) (by decide), mark_form 32 (18446744073709551616 - 2314885530818453536) x (by decide)]

set_option maxHeartbeats 400000 in
theorem zeroBytes_any (x : Nat) (w : World) (hx : x < 18446744073709551616) :
    Calls Tryd.prog 29 #[.int .u64 x] w fun e w' => e = .returned (.int .u64 (mark 1 8 x)) ∧ w' = w := by
  have H := Hid.mk' (mark1_eq x hx)
  clear hx
  go_enter Tryd.func29, Tryd.ntmps29
  go_wp2
  go_ret
  exact ⟨ret_int H.out, rfl⟩

set_option maxHeartbeats 400000 in
theorem bytesBelow_any (x : Nat) (w : World) (hx : x < 18446744073709551616) :
    Calls Tryd.prog 30 #[.int .u64 x, .int .u8 32] w fun e w' => e = .returned (.int .u64 (mark 32 8 x)) ∧ w' = w := by
  have H := Hid.mk' (mark32_eq x hx)
  clear hx
  go_enter Tryd.func30, Tryd.ntmps30
  go_wp2
  go_ret
  exact ⟨ret_int H.out, rfl⟩
end Go.Proofs.Qxb6616667aDoor
