import Derived.Test.Qxb6616743aR1
namespace Go.Proofs.Qxb6616743a
open Go.RowKit

/-- The characters of names, by their numbers. -/
def nameCh (n : Nat) : Bool := decide (97 ≤ n ∧ n ≤ 122) || decide (65 ≤ n ∧ n ≤ 90) || (n == 95) || decide (48 ≤ n ∧ n ≤ 57)
/-- The marks that isNotTokenChar lets through. -/
def markCh (n : Nat) : Bool := [33, 35, 36, 37, 38, 39, 42, 43, 45, 46, 94, 96, 124, 126].contains n
def tch (n : Nat) : Bool := nameCh n || markCh n

def marks : ByteArray := ⟨#[33, 35, 36, 37, 38, 39, 42, 43, 45, 46, 94, 96, 124, 126]⟩
theorem marks_ascii : Ascii marks := by
  intro j h
  have : ∀ j : Fin 14, (marks[j.1]'(by have := j.2; exact this)).toNat < 128 := by decide
  exact this ⟨j, h⟩
theorem marks_index : ∀ x, x < 128 → decide (0 ≤ Lib.indexByte marks.data.toList x.toUInt8) = markCh x := by decide +kernel
theorem markCh_high {x : Nat} (h : 128 ≤ x) : markCh x = false := by
  unfold markCh
  rw [List.contains_eq_any_beq]
  simp only [List.any_cons, List.any_nil, Bool.or_false, Bool.or_eq_false_iff, beq_eq_false_iff_ne, ne_eq]
  omega

set_option maxRecDepth 100000 in
theorem isDigit_any (x : Nat) (w : World) : Calls Try.prog 17 #[.int .i32 x] w fun e w' => e = .returned (.bool (decide (48 ≤ x ∧ x ≤ 57))) ∧ w' = w := by
  rcases (show x < 48 ∨ (48 ≤ x ∧ x ≤ 57) ∨ 58 ≤ x by omega) with h | h | h
  · rw [show decide (48 ≤ x ∧ x ≤ 57) = false by rw [decide_eq_false_iff_not]; omega]
    go_enter Try.func17, Try.ntmps17
    go_wp2
    go_ret
    exact ⟨rfl, rfl⟩
  · rw [show decide (48 ≤ x ∧ x ≤ 57) = true by rw [decide_eq_true_iff]; omega]
    obtain ⟨h1, h2⟩ := h
    go_enter Try.func17, Try.ntmps17
    go_wp2
    go_ret
    exact ⟨by show Ending.returned (.bool (decide ((x : Int) ≤ 57))) = _; rw [show decide ((x : Int) ≤ 57) = true by rw [decide_eq_true_iff]; omega], rfl⟩
  · rw [show decide (48 ≤ x ∧ x ≤ 57) = false by rw [decide_eq_false_iff_not]; omega]
    go_enter Try.func17, Try.ntmps17
    go_wp2
    go_ret
    exact ⟨by show Ending.returned (.bool (decide ((x : Int) ≤ 57))) = _; rw [show decide ((x : Int) ≤ 57) = false by rw [decide_eq_false_iff_not]; omega], rfl⟩

theorem dig_no {x : Nat} (h : x < 48 ∨ 58 ≤ x) : decide (48 ≤ x ∧ x ≤ 57) = false := by rw [decide_eq_false_iff_not]; omega

set_option maxHeartbeats 1600000 in
set_option maxRecDepth 100000 in
theorem isNotNameChar_any (x : Nat) (w : World) : Calls Try.prog 14 #[.int .i32 x] w fun e w' => e = .returned (.bool (!nameCh x)) ∧ w' = w := by
  rcases (show x < 48 ∨ (48 ≤ x ∧ x ≤ 57) ∨ (58 ≤ x ∧ x < 65) ∨ (65 ≤ x ∧ x ≤ 90) ∨ (91 ≤ x ∧ x < 95) ∨ x = 95 ∨ x = 96 ∨ (97 ≤ x ∧ x ≤ 122) ∨ 123 ≤ x by omega) with h | ⟨h, h'⟩ | ⟨h, h'⟩ | ⟨h, h'⟩ | ⟨h, h'⟩ | h | h | ⟨h, h'⟩ | h
  · have hn : nameCh x = false := by simp [nameCh]; omega
    have he : ((x : Int) == 95) = false := by have : ¬ (x : Int) = 95 := by omega
                                              simpa using this
    have hd := dig_no (x := x) (.inl h)
    rw [hn]
    go_enter Try.func14, Try.ntmps14
    go_wp2_with (go_at_call 17; refine (isDigit_any x _).mono ?_; rintro e w' ⟨rfl, rfl⟩)
    go_ret
    exact ⟨rfl, rfl⟩
  · have hn : nameCh x = true := by simp [nameCh]; omega
    have he : ((x : Int) == 95) = false := by have : ¬ (x : Int) = 95 := by omega
                                              simpa using this
    have hd : decide (48 ≤ x ∧ x ≤ 57) = true := by rw [decide_eq_true_iff]; omega
    rw [hn]
    go_enter Try.func14, Try.ntmps14
    go_wp2_with (go_at_call 17; refine (isDigit_any x _).mono ?_; rintro e w' ⟨rfl, rfl⟩)
    go_ret
    exact ⟨rfl, rfl⟩
  · have hn : nameCh x = false := by simp [nameCh]; omega
    have he : ((x : Int) == 95) = false := by have : ¬ (x : Int) = 95 := by omega
                                              simpa using this
    have hd := dig_no (x := x) (.inr h)
    rw [hn]
    go_enter Try.func14, Try.ntmps14
    go_wp2_with (go_at_call 17; refine (isDigit_any x _).mono ?_; rintro e w' ⟨rfl, rfl⟩)
    go_ret
    exact ⟨rfl, rfl⟩
  · have hn : nameCh x = true := by simp [nameCh]; omega
    rw [hn]
    go_enter Try.func14, Try.ntmps14
    go_wp2
    go_ret
    exact ⟨rfl, rfl⟩
  · have hn : nameCh x = false := by simp [nameCh]; omega
    have he : ((x : Int) == 95) = false := by have : ¬ (x : Int) = 95 := by omega
                                              simpa using this
    have hd := dig_no (x := x) (.inr (by omega))
    rw [hn]
    go_enter Try.func14, Try.ntmps14
    go_wp2_with (go_at_call 17; refine (isDigit_any x _).mono ?_; rintro e w' ⟨rfl, rfl⟩)
    go_ret
    exact ⟨by show Ending.returned (.bool (!decide ((x : Int) ≤ 90))) = _; rw [show decide ((x : Int) ≤ 90) = false by rw [decide_eq_false_iff_not]; omega], rfl⟩
  · subst h
    go_enter Try.func14, Try.ntmps14
    go_wp2
    go_ret
    exact ⟨rfl, rfl⟩
  · subst h
    go_enter Try.func14, Try.ntmps14
    go_wp2_with (go_at_call 17; refine (isDigit_any 96 _).mono ?_; rintro e w' ⟨rfl, rfl⟩)
    go_ret
    exact ⟨rfl, rfl⟩
  · have hn : nameCh x = true := by simp [nameCh]; omega
    rw [hn]
    go_enter Try.func14, Try.ntmps14
    go_wp2
    go_ret
    exact ⟨rfl, rfl⟩
  · have hn : nameCh x = false := by simp [nameCh]; omega
    have he : ((x : Int) == 95) = false := by have : ¬ (x : Int) = 95 := by omega
                                              simpa using this
    have hd := dig_no (x := x) (.inr (by omega))
    rw [hn]
    go_enter Try.func14, Try.ntmps14
    go_wp2_with (go_at_call 17; refine (isDigit_any x _).mono ?_; rintro e w' ⟨rfl, rfl⟩)
    go_ret
    exact ⟨by show Ending.returned (.bool (!decide ((x : Int) ≤ 122) && !decide ((x : Int) ≤ 90))) = _; rw [show decide ((x : Int) ≤ 122) = false by rw [decide_eq_false_iff_not]; omega, show decide ((x : Int) ≤ 90) = false by rw [decide_eq_false_iff_not]; omega]; rfl, rfl⟩

set_option maxRecDepth 100000 in
theorem containsRune_any (x : Nat) (w : World) : Calls Try.prog 15 #[.string marks, .int .i32 x] w fun e w' => e = .returned (.bool (markCh x)) ∧ Below w.heap.size w w' := by
  by_cases h : x < 128
  · refine (Try.strings_ContainsRune_ascii marks x w (by omega) (by omega)).mono ?_
    rintro e w' ⟨rfl, rfl⟩
    refine ⟨?_, Below.refl _ _⟩
    rw [Int.toNat_natCast, marks_index x h]
  · rw [markCh_high (by omega)]
    have hI := indexRune_high marks marks_ascii (by decide) x (by omega)
    generalize marks = S at hI ⊢
    go_enter Try.func15, Try.ntmps15
    go_wp2_with (go_at_call 18; refine (hI _).mono ?_; rintro e w' ⟨rfl, hb⟩)
    go_ret
    exact ⟨rfl, hb⟩

set_option maxRecDepth 100000 in
theorem isNotTokenChar_any (x : Nat) (w : World) : Calls Try.prog 12 #[.int .i32 x] w fun e w' => e = .returned (.bool (!tch x)) ∧ Below w.heap.size w w' := by
  have hN := isNotNameChar_any x
  have hC := containsRune_any x
  unfold marks at hC
  unfold tch
  cases hn : nameCh x with
  | true =>
    rw [hn] at hN
    go_enter Try.func12, Try.ntmps12
    go_wp2_with (go_at_call 14; refine (hN _).mono ?_; rintro e w' ⟨rfl, rfl⟩)
    go_ret
    exact ⟨rfl, Below.refl _ _⟩
  | false =>
    rw [hn] at hN
    generalize markCh x = m at hC ⊢
    go_enter Try.func12, Try.ntmps12
    go_wp2_with (first | (go_at_call 14; refine (hN _).mono ?_; rintro e w' ⟨rfl, rfl⟩) | (go_at_call 15; refine (hC _).mono ?_; rintro e w' ⟨rfl, hb⟩))
    go_ret
    exact ⟨by simp, hb⟩
end Go.Proofs.Qxb6616743a
