import Derived.Test.Qxb6617103aChecked
import Derived.Test.Qxb6617103aShelf
import Derived.Test.Qxb6617103aDec
import Derived.WalkKit
import Derived.WalkMore
import Derived.Below
import Derived.Deep.QuietTactic
import Derived.BigQuiet
import Derived.Lib.OthersKept
import Derived.Outline
namespace Go.Proofs.Qxb6617103a
open Go.RowKit

theorem quiet_plus {P : Program} {f : FuncId} {args : Array Value} {w : World} {a n : Nat} {v : Value}
    (h : Calls P f args (w.drewN (a + n)) fun e w' => e = .returned v ∧ w' = w.drewN (a + n)) : Calls P f args (w.drewN (a + n)) fun e w'' => e = .returned v ∧ ∃ m, w'' = w.drewN (a + m) :=
  h.mono fun _ _ ⟨he, hm⟩ => ⟨he, n, hm⟩

theorem Hid.mk' {p : Prop} (h : p) : Hid p := h

set_option maxHeartbeats 1600000 in
set_option maxRecDepth 100000 in
theorem indexRune_bad (r : Int) (h0 : 128 ≤ r) (h1 : ¬ r = 65533) (hv : Lib.validRune r = false) (w : World) :
    Calls Try.prog 14 #[.string ⟨#[101, 69]⟩, .int .i32 r] w fun e w' => e = .returned (.int .i64 (-1)) ∧ Below w.heap.size w w' := by
  have hb : (r == 65533) = false := by simpa using h1
  go_enter Try.func14, Try.ntmps14
  go_wp2_with (go_at_call 19; refine (Try.utf8_ValidRune _ _).mono ?_; rintro e w' ⟨rfl, rfl⟩)
  go_ret
  exact ⟨rfl, Below.refl _ _⟩

set_option maxHeartbeats 1600000 in
set_option maxRecDepth 100000 in
theorem indexRune_err (w : World) :
    Calls Try.prog 14 #[.string ⟨#[101, 69]⟩, .int .i32 65533] w fun e w' => e = .returned (.int .i64 (-1)) ∧ Below w.heap.size w w' := by
  have a0 := fun ty => run_next_ascii (P := Try.prog) w ⟨#[101, 69]⟩ 0 ty (by decide) (by decide)
  have a1 := fun ty => run_next_ascii (P := Try.prog) w ⟨#[101, 69]⟩ 1 ty (by decide) (by decide)
  have a2 := fun ty => run_next_end (P := Try.prog) w ⟨#[101, 69]⟩ 2 ty (by decide)
  have hb : Below w.heap.size w (w.iter ⟨#[101, 69]⟩ 2) := (Below.refl _ w).alloc (Nat.le_refl _) _
  go_enter Try.func14, Try.ntmps14
  go_wp2
  go_loopw [5, 6] (fun _ _ wr => ∃ pos : Nat, pos ≤ 2 ∧ wr = w.iter ⟨#[101, 69]⟩ pos) (fun _ _ wr => 2 - wr.iterPos w.heap.size)
  case atStart => exact ⟨0, Nat.zero_le _, rfl⟩
  case round =>
    obtain ⟨pos, hp, rfl⟩ := hrel
    rcases (show pos = 0 ∨ pos = 1 ∨ pos = 2 by omega) with rfl | rfl | rfl
    · go_wp2
      go_roundw
      case rel => exact ⟨1, by omega, rfl⟩
      case measure => simp
    · go_wp2
      go_roundw
      case rel => exact ⟨2, by omega, rfl⟩
      case measure => simp
    · go_wp2
      go_ret
      exact ⟨rfl, hb⟩

set_option maxHeartbeats 1600000 in
set_option maxRecDepth 100000 in
theorem indexRune_ok (r : Int) (h0 : 128 ≤ r) (h1 : ¬ r = 65533) (hv : Lib.validRune r = true) (w : World) :
    Calls Try.prog 14 #[.string ⟨#[101, 69]⟩, .int .i32 r] w fun e w' => e = .returned (.int .i64 (-1)) ∧ Below w.heap.size w w' := by
  have hb : (r == 65533) = false := by simpa using h1
  go_enter Try.func14, Try.ntmps14
  go_wp2_with (go_at_call 19; refine (Try.utf8_ValidRune _ _).mono ?_; rintro e w' ⟨rfl, rfl⟩)
  have hR := encode_high r h0 hv
  have hcv : ∀ W, (convert 21 9 (.int .i32 r)).run Try.prog W = .ok (.string (Utf8.encode r)) W := fun W => by go_simp
  generalize Utf8.encode r = R at hR hcv
  obtain ⟨hR2, hR4, hRl⟩ := hR
  obtain ⟨l, hl⟩ : ∃ l : Nat, R.size = l + 1 := ⟨R.size - 1, by omega⟩
  have hl1 : 1 ≤ l := by omega
  have hl3 : l ≤ 3 := by omega
  have e1 : ((R.size : Int) - 1) = l := by omega
  go_step3
  go_wp2
  go_loop [9, 10, 11, 12] (fun i _ _ _ => i = .int .i64 l) (fun _ _ _ _ => 0)
  case atStart => rfl
  case round =>
    subst hrel
    by_cases h2 : l < 2
    · obtain rfl : l = 1 := by omega
      have hz : 1 < R.size := by omega
      have hv1 : 128 ≤ (R[1]'hz).toNat := by
        have := hRl (by omega)
        simpa [hl] using this
      have hne : ((((⟨#[101, 69]⟩ : ByteArray)[1]'(by decide)).toNat : Int) != ((R[1]'hz).toNat : Int)) = true := by
        have h69 : (((⟨#[101, 69]⟩ : ByteArray)[1]'(by decide)).toNat : Int) = 69 := by decide
        rw [h69]
        simp only [bne_iff_ne, ne_eq]; omega
      have hw2 : IntKind.i64.wrap 2 = 2 := by decide
      clear hRl
      go_wp2
      go_step3
      go_wp2
      go_quiet (fail)
      go_wp2
      have hib : ∀ c, Lib.indexByte ByteArray.empty.data.toList c = -1 := fun c => rfl
      go_quiet ((go_at_call 18; exact quiet_plus (Try.strings_IndexByte _ _ _)))
      go_wp2
      rw [Exit.noGoto_ret]
      go_simp
      show bodyPost Try.prog Try.f14 (fun e w2 => e = Ending.returned (.int .i64 (-1)) ∧ Below w'.heap.size w' w2) Exit.ret _ _
      go_ret
      exact ⟨rfl, ⟨rfl, rfl, rfl, Nat.le_refl _, fun _ _ => rfl⟩⟩
    · go_wp2
      go_ret
      exact ⟨rfl, Below.refl _ _⟩

theorem indexRune_high (r : Int) (h0 : 128 ≤ r) (w : World) :
    Calls Try.prog 14 #[.string ⟨#[101, 69]⟩, .int .i32 r] w fun e w' => e = .returned (.int .i64 (-1)) ∧ Below w.heap.size w w' := by
  by_cases h1 : r = 65533
  · subst h1; exact indexRune_err w
  · cases hv : Lib.validRune r with
    | true => exact indexRune_ok r h0 h1 hv w
    | false => exact indexRune_bad r h0 h1 hv w
end Go.Proofs.Qxb6617103a
