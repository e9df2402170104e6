import Derived.Test.Qxb6616743aW3
namespace Go.Proofs.Qxb6616743a
open Go.RowKit

theorem size_list (s : ByteArray) : s.data.toList.length = s.size := by simp

theorem tok_empty {s : ByteArray} (h : s.size = 0) : tok s = false := by
  have : s.data.toList.isEmpty = true := by
    rw [List.isEmpty_iff, ← List.length_eq_zero_iff, size_list]; exact h
  unfold tok; rw [this]; rfl
theorem tok_some {s : ByteArray} (h : ¬ s.size = 0) : tok s = allT s := by
  have : s.data.toList.isEmpty = false := by
    cases he : s.data.toList with
    | nil => exact absurd (by rw [← size_list, he]; rfl) h
    | cons => rfl
  unfold tok; rw [this]; rfl
theorem allT_append (a b : ByteArray) : allT (a ++ b) = (allT a && allT b) := by
  unfold allT
  rw [show (a ++ b).data.toList = a.data.toList ++ b.data.toList by simp, List.all_append]
theorem allT_empty {s : ByteArray} (h : s.size = 0) : allT s = true := by
  unfold allT
  rw [show s.data.toList = [] by rw [← List.length_eq_zero_iff, size_list]; exact h]; rfl

set_option maxRecDepth 100000 in
theorem zzBytes5 (a b : ByteArray) (w : World) :
    Calls Try.prog 5 #[.string a, .string b] w fun e w' => e = .returned (.bool (decide (a.size ≤ 1048576 ∧ b.size ≤ 1048576 ∧ a.size + b.size ≤ 1048576))) ∧ w' = w := by
  by_cases ha : a.size ≤ 1048576
  · by_cases hb : b.size ≤ 1048576
    · by_cases hab : a.size + b.size ≤ 1048576
      · rw [show decide (a.size ≤ 1048576 ∧ b.size ≤ 1048576 ∧ a.size + b.size ≤ 1048576) = true by rw [decide_eq_true_iff]; omega]
        go_enter Try.func5, Try.ntmps5
        go_wp2
        go_ret
        exact ⟨rfl, rfl⟩
      · rw [show decide (a.size ≤ 1048576 ∧ b.size ≤ 1048576 ∧ a.size + b.size ≤ 1048576) = false by rw [decide_eq_false_iff_not]; omega]
        go_enter Try.func5, Try.ntmps5
        go_wp2
        go_ret
        exact ⟨rfl, rfl⟩
    · rw [show decide (a.size ≤ 1048576 ∧ b.size ≤ 1048576 ∧ a.size + b.size ≤ 1048576) = false by rw [decide_eq_false_iff_not]; omega]
      go_enter Try.func5, Try.ntmps5
      go_wp2
      go_ret
      exact ⟨rfl, rfl⟩
  · rw [show decide (a.size ≤ 1048576 ∧ b.size ≤ 1048576 ∧ a.size + b.size ≤ 1048576) = false by rw [decide_eq_false_iff_not]; omega]
    go_enter Try.func5, Try.ntmps5
    go_wp2
    go_ret
    exact ⟨rfl, rfl⟩

set_option maxRecDepth 100000 in
theorem zzBytes8 (a : ByteArray) (i c : Int) (w : World) :
    Calls Try.prog 8 #[.string a, .int .i64 i, .int .u8 c] w fun e w' => e = .returned (.bool (decide (a.size ≤ 1048576))) ∧ w' = w := by
  by_cases ha : a.size ≤ 1048576
  · rw [show decide (a.size ≤ 1048576) = true by rw [decide_eq_true_iff]; omega]
    go_enter Try.func8, Try.ntmps8
    go_wp2
    go_ret
    exact ⟨rfl, rfl⟩
  · rw [show decide (a.size ≤ 1048576) = false by rw [decide_eq_false_iff_not]; omega]
    go_enter Try.func8, Try.ntmps8
    go_wp2
    go_ret
    exact ⟨rfl, rfl⟩

set_option maxHeartbeats 1600000 in
set_option maxRecDepth 100000 in
theorem join_walk (a b : ByteArray) (w : World) :
    Calls Try.prog 3 #[.string a, .string b] w fun e w' => e = .returned (.bool true) ∧ Below w.heap.size w w' := by
  have hZ := zzBytes5 a b
  by_cases hall : a.size ≤ 1048576 ∧ b.size ≤ 1048576 ∧ a.size + b.size ≤ 1048576
  · rw [show decide (a.size ≤ 1048576 ∧ b.size ≤ 1048576 ∧ a.size + b.size ≤ 1048576) = true by rw [decide_eq_true_iff]; exact hall] at hZ
    obtain ⟨ha, hb, hab⟩ := hall
    by_cases ha2 : a.size ≤ 65536
    · by_cases hb2 : b.size ≤ 65536
      · have hL := zzIsToken_any a
        have hR := zzIsToken_any b
        have hW := zzIsToken_any (a ++ b)
        have hA := allTChars_any a ha
        have ht := Hid.mk' (allT_append a b)
        by_cases za : a.size = 0
        · by_cases zb : b.size = 0
          · have zw : (a ++ b).size = 0 := by rw [ByteArray.size_append]; omega
            rw [tok_empty za] at hL
            rw [tok_empty zb] at hR
            rw [tok_empty zw] at hW
            go_enter Try.func3, Try.ntmps3
            go_wp2_with (first | (go_at_call 5; refine (hZ _).mono ?_; rintro e w' ⟨rfl, rfl⟩) | (go_at_call 6; first | (refine (hL _).mono ?_; rintro e w' ⟨rfl, hb1⟩) | (refine (hR _).mono ?_; rintro e w' ⟨rfl, hb2⟩) | (refine (hW _).mono ?_; rintro e w' ⟨rfl, hb3⟩)) | (go_at_call 7; refine (hA _).mono ?_; rintro e w' ⟨rfl, rfl⟩))
            go_ret
            exact ⟨rfl, (hb1.trans (hb2.mono hb1.size)).trans (hb3.mono (Nat.le_trans hb1.size hb2.size))⟩
          · have zw : ¬ (a ++ b).size = 0 := by rw [ByteArray.size_append]; omega
            have zb' : 0 < b.size := by omega
            rw [tok_empty za] at hL
            rw [tok_some zb] at hR
            rw [tok_some zw, ht.out, allT_empty za, Bool.true_and] at hW
            clear zw ht
            cases hq : allT b with
            | true =>
              rw [hq] at hR hW
              go_enter Try.func3, Try.ntmps3
              go_wp2_with (first | (go_at_call 5; refine (hZ _).mono ?_; rintro e w' ⟨rfl, rfl⟩) | (go_at_call 6; first | (refine (hL _).mono ?_; rintro e w' ⟨rfl, hb1⟩) | (refine (hR _).mono ?_; rintro e w' ⟨rfl, hb2⟩) | (refine (hW _).mono ?_; rintro e w' ⟨rfl, hb3⟩)) | (go_at_call 7; refine (hA _).mono ?_; rintro e w' ⟨rfl, rfl⟩))
              go_ret
              exact ⟨rfl, (hb1.trans (hb2.mono hb1.size)).trans (hb3.mono (Nat.le_trans hb1.size hb2.size))⟩
            | false =>
              rw [hq] at hR hW
              go_enter Try.func3, Try.ntmps3
              go_wp2_with (first | (go_at_call 5; refine (hZ _).mono ?_; rintro e w' ⟨rfl, rfl⟩) | (go_at_call 6; first | (refine (hL _).mono ?_; rintro e w' ⟨rfl, hb1⟩) | (refine (hR _).mono ?_; rintro e w' ⟨rfl, hb2⟩) | (refine (hW _).mono ?_; rintro e w' ⟨rfl, hb3⟩)) | (go_at_call 7; refine (hA _).mono ?_; rintro e w' ⟨rfl, rfl⟩))
              go_ret
              exact ⟨by show Ending.returned (.bool (!((b.size : Int) == 0))) = _; rw [show ((b.size : Int) == 0) = false by simpa using zb]; rfl, (hb1.trans (hb2.mono hb1.size)).trans (hb3.mono (Nat.le_trans hb1.size hb2.size))⟩
        · by_cases zb : b.size = 0
          · have zw : ¬ (a ++ b).size = 0 := by rw [ByteArray.size_append]; omega
            have za' : 0 < a.size := by omega
            rw [tok_some za] at hL
            rw [tok_empty zb] at hR
            rw [tok_some zw, ht.out, allT_empty zb, Bool.and_true] at hW
            clear zw ht
            cases hp : allT a with
            | true =>
              rw [hp] at hL hW hA
              go_enter Try.func3, Try.ntmps3
              go_wp2_with (first | (go_at_call 5; refine (hZ _).mono ?_; rintro e w' ⟨rfl, rfl⟩) | (go_at_call 6; first | (refine (hL _).mono ?_; rintro e w' ⟨rfl, hb1⟩) | (refine (hR _).mono ?_; rintro e w' ⟨rfl, hb2⟩) | (refine (hW _).mono ?_; rintro e w' ⟨rfl, hb3⟩)) | (go_at_call 7; refine (hA _).mono ?_; rintro e w' ⟨rfl, rfl⟩))
              go_ret
              exact ⟨rfl, (hb1.trans (hb2.mono hb1.size)).trans (hb3.mono (Nat.le_trans hb1.size hb2.size))⟩
            | false =>
              rw [hp] at hL hW hA
              go_enter Try.func3, Try.ntmps3
              go_wp2_with (first | (go_at_call 5; refine (hZ _).mono ?_; rintro e w' ⟨rfl, rfl⟩) | (go_at_call 6; first | (refine (hL _).mono ?_; rintro e w' ⟨rfl, hb1⟩) | (refine (hR _).mono ?_; rintro e w' ⟨rfl, hb2⟩) | (refine (hW _).mono ?_; rintro e w' ⟨rfl, hb3⟩)) | (go_at_call 7; refine (hA _).mono ?_; rintro e w' ⟨rfl, rfl⟩))
              go_ret
              exact ⟨rfl, (hb1.trans (hb2.mono hb1.size)).trans (hb3.mono (Nat.le_trans hb1.size hb2.size))⟩
          · have zw : ¬ (a ++ b).size = 0 := by rw [ByteArray.size_append]; omega
            have za' : 0 < a.size := by omega
            have zb' : 0 < b.size := by omega
            rw [tok_some za] at hL
            rw [tok_some zb] at hR
            rw [tok_some zw, ht.out] at hW
            clear zw ht
            cases hp : allT a with
            | true =>
              rw [hp] at hL hW hA
              cases hq : allT b with
              | true =>
                rw [hq] at hR hW
                go_enter Try.func3, Try.ntmps3
                go_wp2_with (first | (go_at_call 5; refine (hZ _).mono ?_; rintro e w' ⟨rfl, rfl⟩) | (go_at_call 6; first | (refine (hL _).mono ?_; rintro e w' ⟨rfl, hb1⟩) | (refine (hR _).mono ?_; rintro e w' ⟨rfl, hb2⟩) | (refine (hW _).mono ?_; rintro e w' ⟨rfl, hb3⟩)) | (go_at_call 7; refine (hA _).mono ?_; rintro e w' ⟨rfl, rfl⟩))
                go_ret
                exact ⟨rfl, (hb1.trans (hb2.mono hb1.size)).trans (hb3.mono (Nat.le_trans hb1.size hb2.size))⟩
              | false =>
                rw [hq] at hR hW
                go_enter Try.func3, Try.ntmps3
                go_wp2_with (first | (go_at_call 5; refine (hZ _).mono ?_; rintro e w' ⟨rfl, rfl⟩) | (go_at_call 6; first | (refine (hL _).mono ?_; rintro e w' ⟨rfl, hb1⟩) | (refine (hR _).mono ?_; rintro e w' ⟨rfl, hb2⟩) | (refine (hW _).mono ?_; rintro e w' ⟨rfl, hb3⟩)) | (go_at_call 7; refine (hA _).mono ?_; rintro e w' ⟨rfl, rfl⟩))
                go_ret
                exact ⟨by show Ending.returned (.bool (!((b.size : Int) == 0))) = _; rw [show ((b.size : Int) == 0) = false by simpa using zb]; rfl, (hb1.trans (hb2.mono hb1.size)).trans (hb3.mono (Nat.le_trans hb1.size hb2.size))⟩
            | false =>
              rw [hp] at hL hW hA
              cases hq : allT b with
              | true =>
                rw [hq] at hR hW
                go_enter Try.func3, Try.ntmps3
                go_wp2_with (first | (go_at_call 5; refine (hZ _).mono ?_; rintro e w' ⟨rfl, rfl⟩) | (go_at_call 6; first | (refine (hL _).mono ?_; rintro e w' ⟨rfl, hb1⟩) | (refine (hR _).mono ?_; rintro e w' ⟨rfl, hb2⟩) | (refine (hW _).mono ?_; rintro e w' ⟨rfl, hb3⟩)) | (go_at_call 7; refine (hA _).mono ?_; rintro e w' ⟨rfl, rfl⟩))
                go_ret
                exact ⟨rfl, (hb1.trans (hb2.mono hb1.size)).trans (hb3.mono (Nat.le_trans hb1.size hb2.size))⟩
              | false =>
                rw [hq] at hR hW
                go_enter Try.func3, Try.ntmps3
                go_wp2_with (first | (go_at_call 5; refine (hZ _).mono ?_; rintro e w' ⟨rfl, rfl⟩) | (go_at_call 6; first | (refine (hL _).mono ?_; rintro e w' ⟨rfl, hb1⟩) | (refine (hR _).mono ?_; rintro e w' ⟨rfl, hb2⟩) | (refine (hW _).mono ?_; rintro e w' ⟨rfl, hb3⟩)) | (go_at_call 7; refine (hA _).mono ?_; rintro e w' ⟨rfl, rfl⟩))
                go_ret
                exact ⟨rfl, (hb1.trans (hb2.mono hb1.size)).trans (hb3.mono (Nat.le_trans hb1.size hb2.size))⟩
      · go_enter Try.func3, Try.ntmps3
        go_wp2_with (go_at_call 5; refine (hZ _).mono ?_; rintro e w' ⟨rfl, rfl⟩)
        go_ret
        exact ⟨rfl, Below.refl _ _⟩
    · go_enter Try.func3, Try.ntmps3
      go_wp2_with (go_at_call 5; refine (hZ _).mono ?_; rintro e w' ⟨rfl, rfl⟩)
      go_ret
      exact ⟨rfl, Below.refl _ _⟩
  · rw [show decide (a.size ≤ 1048576 ∧ b.size ≤ 1048576 ∧ a.size + b.size ≤ 1048576) = false by rw [decide_eq_false_iff_not]; exact hall] at hZ
    clear hall
    go_enter Try.func3, Try.ntmps3
    go_wp2_with (go_at_call 5; refine (hZ _).mono ?_; rintro e w' ⟨rfl, rfl⟩)
    go_ret
    exact ⟨rfl, Below.refl _ _⟩
end Go.Proofs.Qxb6616743a
