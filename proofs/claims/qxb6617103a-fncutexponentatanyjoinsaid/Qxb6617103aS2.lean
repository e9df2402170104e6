import Derived.Test.Qxb6617103aS1
namespace Go.Proofs.Qxb6617103a
open Go.RowKit

theorem toNat_b (c : UInt8) (n : Nat) (h : n < 256) : (((c.toNat : Int) == (n : Int)) = true) ↔ c = UInt8.ofNat n := by
  rw [beq_iff_eq]
  constructor
  · intro e
    have e' : c.toNat = n := by omega
    rw [← e', UInt8.ofNat_toNat]
  · rintro rfl
    simp [UInt8.toNat_ofNat_of_lt' h]

/-- The test on the first byte, in the walk's words: true at a sign, by the one or the other half. -/
theorem sign_true {s : ByteArray} (h : signL s.data.toList = true) (h0 : 0 < s.size) : (((s[0].toNat : Int) == 43) = true) ∨ (((s[0].toNat : Int) == 43) = false ∧ ((s[0].toNat : Int) == 45) = true) := by
  obtain ⟨t, ht⟩ := first_byte s h0
  rw [ht] at h
  simp only [signL, Bool.or_eq_true, beq_iff_eq] at h
  by_cases h1 : s[0] = 43
  · exact Or.inl ((toNat_b _ 43 (by decide)).2 h1)
  · refine Or.inr ⟨?_, (toNat_b _ 45 (by decide)).2 (h.resolve_left h1)⟩
    rw [Bool.eq_false_iff]
    exact fun e => h1 ((toNat_b _ 43 (by decide)).1 e)
theorem sign_false {s : ByteArray} (h : signL s.data.toList = false) (h0 : 0 < s.size) : ((s[0].toNat : Int) == 43) = false ∧ ((s[0].toNat : Int) == 45) = false := by
  obtain ⟨t, ht⟩ := first_byte s h0
  rw [ht] at h
  simp only [signL, Bool.or_eq_false_iff, beq_eq_false_iff_ne] at h
  exact ⟨by rw [Bool.eq_false_iff]; exact fun e => h.1 ((toNat_b _ 43 (by decide)).1 e), by rw [Bool.eq_false_iff]; exact fun e => h.2 ((toNat_b _ 45 (by decide)).1 e)⟩

theorem nonempty_toList {s : ByteArray} (h : 0 < s.size) : s.toList.isEmpty = false := by
  rw [ByteArray.toList_eq]
  have : 0 < s.data.toList.length := h
  cases hl : s.data.toList with
  | nil => rw [hl] at this; simp at this
  | cons b t => rfl

theorem ret_str {a b : ByteArray} (h : a = b) : Ending.returned (.string a) = .returned (.string b) := by rw [h]
theorem ret_bool {a b : Bool} (h : a = b) : Ending.returned (.bool a) = .returned (.bool b) := by rw [h]

set_option maxHeartbeats 400000 in
theorem trimSign_any (s : ByteArray) (w : World) (hs : s.size ≤ maxLen) : Calls Try.prog 11 #[.string s] w fun e w' => e = .returned (.string (trim s)) ∧ w' = w := by
  unfold maxLen at hs
  cases hsg : signL s.data.toList with
  | true =>
    have h0 := sign_pos hsg
    have hne := nonempty_toList h0
    have ht : trim s = s.extract 1 s.size := by unfold trim; rw [if_pos hsg]
    have HT := Hid.mk' ht
    rcases sign_true hsg h0 with hb | ⟨hb, hb2⟩
    all_goals
      clear ht hsg
      go_enter Try.func11, Try.ntmps11
      go_wp2
      go_ret
      exact ⟨ret_str HT.out.symm, rfl⟩
  | false =>
    have ht : trim s = s := by unfold trim; rw [if_neg (by rw [hsg]; exact Bool.false_ne_true)]
    have HT := Hid.mk' ht
    by_cases h0 : 0 < s.size
    · have hne := nonempty_toList h0
      obtain ⟨hb, hb2⟩ := sign_false hsg h0
      clear ht hsg
      go_enter Try.func11, Try.ntmps11
      go_wp2
      go_ret
      exact ⟨ret_str HT.out.symm, rfl⟩
    · obtain rfl : s = ⟨#[]⟩ := ba_ext (List.eq_nil_of_length_eq_zero (by show s.size = 0; omega))
      clear ht hsg
      go_enter Try.func11, Try.ntmps11
      go_wp2
      go_ret
      exact ⟨ret_str HT.out.symm, rfl⟩

set_option maxHeartbeats 400000 in
theorem zztrim_any (s : ByteArray) (w : World) (hs : s.size ≤ maxLen) : Calls Try.prog 6 #[.string s] w fun e w' => e = .returned (.string (trim s)) ∧ w' = w := by
  go_enter Try.func6, Try.ntmps6
  go_wp2_with (go_at_call 11; refine (trimSign_any _ _ hs).mono ?_; rintro e w' ⟨rfl, rfl⟩)
  go_ret
  exact ⟨rfl, rfl⟩

set_option maxHeartbeats 400000 in
theorem signLen_any (s : ByteArray) (w : World) : Calls Try.prog 7 #[.string s] w fun e w' => e = .returned (.int .i64 (signN s)) ∧ w' = w := by
  cases hsg : signL s.data.toList with
  | true =>
    have h0 := sign_pos hsg
    have ht : signN s = 1 := by unfold signN; rw [if_pos hsg]
    have HT := Hid.mk' ht
    rcases sign_true hsg h0 with hb | ⟨hb, hb2⟩
    all_goals
      clear ht hsg
      go_enter Try.func7, Try.ntmps7
      go_wp2
      go_ret
      exact ⟨ret_int (by rw [HT.out]; rfl), rfl⟩
  | false =>
    have ht : signN s = 0 := by unfold signN; rw [if_neg (by rw [hsg]; exact Bool.false_ne_true)]
    have HT := Hid.mk' ht
    by_cases h0 : 0 < s.size
    · obtain ⟨hb, hb2⟩ := sign_false hsg h0
      clear ht hsg
      go_enter Try.func7, Try.ntmps7
      go_wp2
      go_ret
      exact ⟨ret_int (by rw [HT.out]; rfl), rfl⟩
    · clear ht hsg
      go_enter Try.func7, Try.ntmps7
      go_wp2
      go_ret
      exact ⟨ret_int (by rw [HT.out]; rfl), rfl⟩

/-- Does the text hold a mark? -/
def hasE (s : ByteArray) : Bool := decide (idxE s.data.toList ≠ -1)

set_option maxHeartbeats 800000 in
theorem hasMark_any (s : ByteArray) (w : World) (hs : s.size ≤ maxLen) : Calls Try.prog 9 #[.string s] w fun e w' => e = .returned (.bool (hasE s)) ∧ w' = w := by
  unfold maxLen at hs
  go_enter Try.func9, Try.ntmps9
  go_wp2
  go_loop [3] (fun i => ∃ k : Nat, k ≤ s.size ∧ i = .int .i64 k ∧ NoE s.data.toList k) (fun i => s.size - (intOf i).toNat)
  case atStart => exact ⟨0, Nat.zero_le _, rfl, fun j x hj _ => absurd hj (Nat.not_lt_zero _)⟩
  case round =>
    obtain ⟨k, hk, rfl, hN⟩ := hrel
    have HN := Hid.mk' hN
    clear hN
    by_cases hlt : k < s.size
    · have hl := list_get s k hlt
      have HL := Hid.mk' hl
      clear hl
      by_cases hh : s[k] = 101 ∨ s[k] = 69
      · have HH := Hid.mk' hh
        have hb : (((s[k].toNat : Int) == 101) = true) ∨ (((s[k].toNat : Int) == 101) = false ∧ ((s[k].toNat : Int) == 69) = true) := by
          by_cases h1 : s[k] = 101
          · exact Or.inl ((toNat_b _ 101 (by decide)).2 h1)
          · exact Or.inr ⟨by rw [Bool.eq_false_iff]; exact fun e => h1 ((toNat_b _ 101 (by decide)).1 e), (toNat_b _ 69 (by decide)).2 (hh.resolve_left h1)⟩
        clear hh
        rcases hb with hb | ⟨hb, hb2⟩
        all_goals
          go_wp2
          go_ret
          exact ⟨ret_bool (by have := idx_mk HN.out HL.out HH.out; unfold hasE; rw [this]; simp), rfl⟩
      · have h1 : ((s[k].toNat : Int) == 101) = false := by rw [Bool.eq_false_iff]; exact fun e => hh (Or.inl ((toNat_b _ 101 (by decide)).1 e))
        have h2 : ((s[k].toNat : Int) == 69) = false := by rw [Bool.eq_false_iff]; exact fun e => hh (Or.inr ((toNat_b _ 69 (by decide)).1 e))
        have HH := Hid.mk' hh
        clear hh
        go_wp2
        go_round
        case rel => exact ⟨k + 1, by omega, by go_num, HN.out.succ HL.out (fun e => HH.out (Or.inl e)) (fun e => HH.out (Or.inr e))⟩
        case measure => simp [intOf]; omega
    · go_wp2
      go_ret
      exact ⟨ret_bool (by have := idx_none HN.out hlt; unfold hasE; rw [this]; rfl), rfl⟩
end Go.Proofs.Qxb6617103a
