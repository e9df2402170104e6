import Derived.Test.Qxb6616743aChecked
import Derived.Test.Qxb6616743aShelf
import Derived.Test.Qxb6616743aDec
import Derived.WalkKit
import Derived.WalkMore
import Derived.Below
import Derived.Deep.QuietTactic
import Derived.BigQuiet
import Derived.Lib.OthersKept
import Derived.Outline
namespace Go.Proofs.Qxb6616743a
open Go.RowKit

theorem quiet_plus {P : Program} {f : FuncId} {args : Array Value} {w : World} {a n : Nat} {v : Value}
    (h : Calls P f args (w.drewN (a + n)) fun e w' => e = .returned v ∧ w' = w.drewN (a + n)) : Calls P f args (w.drewN (a + n)) fun e w'' => e = .returned v ∧ ∃ m, w'' = w.drewN (a + m) :=
  h.mono fun _ _ ⟨he, hm⟩ => ⟨he, n, hm⟩

theorem Hid.mk' {p : Prop} (h : p) : Hid p := h

set_option maxHeartbeats 1600000 in
set_option maxRecDepth 100000 in
theorem indexRune_bad (S : ByteArray) (r : Int) (h0 : 128 ≤ r) (h1 : ¬ r = 65533) (hv : Lib.validRune r = false) (w : World) :
    Calls Try.prog 18 #[.string S, .int .i32 r] w fun e w' => e = .returned (.int .i64 (-1)) ∧ Below w.heap.size w w' := by
  have hb : (r == 65533) = false := by simpa using h1
  go_enter Try.func18, Try.ntmps18
  go_wp2_with (go_at_call 20; refine (Try.utf8_ValidRune _ _).mono ?_; rintro e w' ⟨rfl, rfl⟩)
  go_ret
  exact ⟨rfl, Below.refl _ _⟩

/-- A text of ASCII alone. -/
def Ascii (S : ByteArray) : Prop := ∀ j (h : j < S.size), (S[j]'h).toNat < 128

set_option maxHeartbeats 1600000 in
set_option maxRecDepth 100000 in
theorem indexRune_err (S : ByteArray) (hS : Ascii S) (w : World) :
    Calls Try.prog 18 #[.string S, .int .i32 65533] w fun e w' => e = .returned (.int .i64 (-1)) ∧ Below w.heap.size w w' := by
  have HS := Hid.mk' hS
  clear hS
  go_enter Try.func18, Try.ntmps18
  go_wp2
  go_loopw [5, 6] (fun _ _ wr => ∃ pos : Nat, pos ≤ S.size ∧ wr = w.iter S pos) (fun _ _ wr => S.size - wr.iterPos w.heap.size)
  case atStart => exact ⟨0, Nat.zero_le _, rfl⟩
  case round =>
    obtain ⟨pos, hp, rfl⟩ := hrel
    by_cases hlt : pos < S.size
    · have h128 := HS.out pos hlt
      have a0 := fun ty => run_next_ascii (P := Try.prog) w S pos ty hlt h128
      have hne : (((S[pos]'hlt).toNat : Int) == 65533) = false := by
        have : ¬ ((S[pos]'hlt).toNat : Int) = 65533 := by omega
        simpa using this
      go_wp2
      go_roundw
      case rel => exact ⟨pos + 1, by omega, rfl⟩
      case measure => simp; omega
    · have a2 := fun ty => run_next_end (P := Try.prog) w S pos ty hlt
      have hb : Below w.heap.size w (w.iter S pos) := (Below.refl _ w).alloc (Nat.le_refl _) _
      go_wp2
      go_ret
      exact ⟨rfl, hb⟩

theorem indexByte_high (S : ByteArray) (hS : Ascii S) (a : Nat) (c : UInt8) (hc : 128 ≤ c.toNat) : Lib.indexByte (S.extract a S.size).data.toList c = -1 := by
  have key : ∀ l : List UInt8, (∀ b ∈ l, b.toNat < 128) → Lib.indexByte l c = -1 := by
    intro l
    induction l with
    | nil => intro _; rfl
    | cons b t ih =>
      intro hl
      have hb := hl b (List.mem_cons_self ..)
      have hne : (b == c) = false := by
        rw [beq_eq_false_iff_ne]; intro e; subst e; omega
      rw [Lib.indexByte, hne, ih (fun x hx => hl x (List.mem_cons_of_mem _ hx))]
      rfl
  refine key _ fun b hb => ?_
  obtain ⟨i, hi, rfl⟩ := List.getElem_of_mem hb
  have hi' : i < (S.extract a S.size).size := by simpa using hi
  have h1 : a + i < S.size := by rw [ByteArray.size_extract] at hi'; omega
  have := hS (a + i) h1
  have e : (S.extract a S.size).data.toList[i] = S[a + i]'h1 := by
    rw [Array.getElem_toList]
    exact ByteArray.getElem_extract (h := hi')
  rw [e]; exact this

set_option maxHeartbeats 1600000 in
set_option maxRecDepth 100000 in
theorem indexRune_ok (S : ByteArray) (hS : Ascii S) (hm : S.size ≤ 1000) (r : Int) (h0 : 128 ≤ r) (h1 : ¬ r = 65533) (hv : Lib.validRune r = true) (w : World) :
    Calls Try.prog 18 #[.string S, .int .i32 r] w fun e w' => e = .returned (.int .i64 (-1)) ∧ Below w.heap.size w w' := by
  have hb : (r == 65533) = false := by simpa using h1
  go_enter Try.func18, Try.ntmps18
  go_wp2_with (go_at_call 20; refine (Try.utf8_ValidRune _ _).mono ?_; rintro e w' ⟨rfl, rfl⟩)
  have hR := encode_high r h0 hv
  have hcv : ∀ W, (convert 21 9 (.int .i32 r)).run Try.prog W = .ok (.string (Utf8.encode r)) W := fun W => by go_simp
  generalize Utf8.encode r = R at hR hcv
  obtain ⟨hR2, hR4, hRl⟩ := hR
  obtain ⟨l, hl⟩ : ∃ l : Nat, R.size = l + 1 := ⟨R.size - 1, by omega⟩
  have hl1 : 1 ≤ l := by omega
  have hl3 : l ≤ 3 := by omega
  have e1 : ((R.size : Int) - 1) = l := by omega
  go_step3
  go_wp2
  go_loop [9, 10, 11, 12] (fun i _ _ _ => i = .int .i64 l) (fun _ _ _ _ => 0)
  case atStart => rfl
  case round =>
    subst hrel
    by_cases h2 : l < S.size
    · rcases (show l = 1 ∨ l = 2 ∨ l = 3 by omega) with rfl | rfl | rfl
      · have hz : 1 < R.size := by omega
        have hv1 : 128 ≤ (R[1]'hz).toNat := by
          have := hRl (by omega)
          simpa [hl] using this
        have hne : (((S[1]'h2).toNat : Int) != ((R[1]'hz).toNat : Int)) = true := by
          have := hS 1 h2
          simp only [bne_iff_ne, ne_eq]; omega
        have hw2 : IntKind.i64.wrap 2 = 2 := by decide
        have hle : 2 ≤ S.size := h2
        have hix := indexByte_high S hS 2 (R[1]'hz) hv1
        have hix2 : Lib.indexByte (List.take (S.size - 2) (List.drop 2 S.data.toList)) (R[1]'hz) = -1 := by simpa using hix
        clear hRl
        go_wp2
        go_step3
        go_wp2
        go_quiet (fail)
        go_wp2
        go_quiet ((go_at_call 19; exact quiet_plus (Try.strings_IndexByte _ _ _)))
        go_wp2
        rw [Exit.noGoto_ret]
        go_simp
        show bodyPost Try.prog Try.f18 (fun e w2 => e = Ending.returned (.int .i64 (-1)) ∧ Below w'.heap.size w' w2) Exit.ret _ _
        go_ret
        exact ⟨rfl, ⟨rfl, rfl, rfl, Nat.le_refl _, fun _ _ => rfl⟩⟩
      · have hz : 2 < R.size := by omega
        have hv1 : 128 ≤ (R[2]'hz).toNat := by
          have := hRl (by omega)
          simpa [hl] using this
        have hne : (((S[2]'h2).toNat : Int) != ((R[2]'hz).toNat : Int)) = true := by
          have := hS 2 h2
          simp only [bne_iff_ne, ne_eq]; omega
        have hw2 : IntKind.i64.wrap 3 = 3 := by decide
        have hle : 3 ≤ S.size := h2
        have hix := indexByte_high S hS 3 (R[2]'hz) hv1
        have hix2 : Lib.indexByte (List.take (S.size - 3) (List.drop 3 S.data.toList)) (R[2]'hz) = -1 := by simpa using hix
        clear hRl
        go_wp2
        go_step3
        go_wp2
        go_quiet (fail)
        go_wp2
        go_quiet ((go_at_call 19; exact quiet_plus (Try.strings_IndexByte _ _ _)))
        go_wp2
        rw [Exit.noGoto_ret]
        go_simp
        show bodyPost Try.prog Try.f18 (fun e w2 => e = Ending.returned (.int .i64 (-1)) ∧ Below w'.heap.size w' w2) Exit.ret _ _
        go_ret
        exact ⟨rfl, ⟨rfl, rfl, rfl, Nat.le_refl _, fun _ _ => rfl⟩⟩
      · have hz : 3 < R.size := by omega
        have hv1 : 128 ≤ (R[3]'hz).toNat := by
          have := hRl (by omega)
          simpa [hl] using this
        have hne : (((S[3]'h2).toNat : Int) != ((R[3]'hz).toNat : Int)) = true := by
          have := hS 3 h2
          simp only [bne_iff_ne, ne_eq]; omega
        have hw2 : IntKind.i64.wrap 4 = 4 := by decide
        have hle : 4 ≤ S.size := h2
        have hix := indexByte_high S hS 4 (R[3]'hz) hv1
        have hix2 : Lib.indexByte (List.take (S.size - 4) (List.drop 4 S.data.toList)) (R[3]'hz) = -1 := by simpa using hix
        clear hRl
        go_wp2
        go_step3
        go_wp2
        go_quiet (fail)
        go_wp2
        go_quiet ((go_at_call 19; exact quiet_plus (Try.strings_IndexByte _ _ _)))
        go_wp2
        rw [Exit.noGoto_ret]
        go_simp
        show bodyPost Try.prog Try.f18 (fun e w2 => e = Ending.returned (.int .i64 (-1)) ∧ Below w'.heap.size w' w2) Exit.ret _ _
        go_ret
        exact ⟨rfl, ⟨rfl, rfl, rfl, Nat.le_refl _, fun _ _ => rfl⟩⟩
    · go_wp2
      go_ret
      exact ⟨rfl, Below.refl _ _⟩

theorem indexRune_high (S : ByteArray) (hS : Ascii S) (hm : S.size ≤ 1000) (r : Int) (h0 : 128 ≤ r) (w : World) :
    Calls Try.prog 18 #[.string S, .int .i32 r] w fun e w' => e = .returned (.int .i64 (-1)) ∧ Below w.heap.size w w' := by
  by_cases h1 : r = 65533
  · subst h1; exact indexRune_err S hS w
  · cases hv : Lib.validRune r with
    | true => exact indexRune_ok S hS hm r h0 h1 hv w
    | false => exact indexRune_bad S r h0 h1 hv w
end Go.Proofs.Qxb6616743a
