import Derived.Test.Qxb6616743aW2
namespace Go.Proofs.Qxb6616743a
open Go.RowKit

set_option maxHeartbeats 1600000 in
set_option maxRecDepth 100000 in
theorem isTChar_any (n : Nat) (w : World) : Calls Try.prog 9 #[.int .u8 n] w fun e w' => e = .returned (.bool (tch n)) ∧ w' = w := by
  rcases (show (97 ≤ n ∧ n ≤ 122) ∨ (65 ≤ n ∧ n ≤ 90) ∨ (48 ≤ n ∧ n ≤ 57) ∨ n = 33 ∨ n = 35 ∨ n = 36 ∨ n = 37 ∨ n = 38 ∨ n = 39 ∨ n = 42 ∨ n = 43 ∨ n = 45 ∨ n = 46 ∨ n = 94 ∨ n = 95 ∨ n = 96 ∨ n = 124 ∨ n = 126 ∨ (¬ n = 33 ∧ ¬ n = 35 ∧ ¬ n = 36 ∧ ¬ n = 37 ∧ ¬ n = 38 ∧ ¬ n = 39 ∧ ¬ n = 42 ∧ ¬ n = 43 ∧ ¬ n = 45 ∧ ¬ n = 46 ∧ ¬ n = 94 ∧ ¬ n = 95 ∧ ¬ n = 96 ∧ ¬ n = 124 ∧ ¬ n = 126 ∧ (n < 48 ∨ (58 ≤ n ∧ n < 65) ∨ (91 ≤ n ∧ n < 97) ∨ 123 ≤ n)) by omega) with ⟨h, h'⟩ | ⟨h, h'⟩ | ⟨h, h'⟩ | rfl | rfl | rfl | rfl | rfl | rfl | rfl | rfl | rfl | rfl | rfl | rfl | rfl | rfl | rfl | h
  · have hn : tch n = true := by
      have : nameCh n = true := by simp [nameCh]; omega
      unfold tch; rw [this]; rfl
    rw [hn]
    go_enter Try.func9, Try.ntmps9
    go_wp2
    go_ret
    exact ⟨rfl, rfl⟩
  · have hn : tch n = true := by
      have : nameCh n = true := by simp [nameCh]; omega
      unfold tch; rw [this]; rfl
    rw [hn]
    go_enter Try.func9, Try.ntmps9
    go_wp2
    go_ret
    exact ⟨rfl, rfl⟩
  · have hn : tch n = true := by
      have : nameCh n = true := by simp [nameCh]; omega
      unfold tch; rw [this]; rfl
    rw [hn]
    go_enter Try.func9, Try.ntmps9
    go_wp2
    go_ret
    exact ⟨rfl, rfl⟩
  · go_enter Try.func9, Try.ntmps9
    go_wp2
    go_ret
    exact ⟨rfl, rfl⟩
  · go_enter Try.func9, Try.ntmps9
    go_wp2
    go_ret
    exact ⟨rfl, rfl⟩
  · go_enter Try.func9, Try.ntmps9
    go_wp2
    go_ret
    exact ⟨rfl, rfl⟩
  · go_enter Try.func9, Try.ntmps9
    go_wp2
    go_ret
    exact ⟨rfl, rfl⟩
  · go_enter Try.func9, Try.ntmps9
    go_wp2
    go_ret
    exact ⟨rfl, rfl⟩
  · go_enter Try.func9, Try.ntmps9
    go_wp2
    go_ret
    exact ⟨rfl, rfl⟩
  · go_enter Try.func9, Try.ntmps9
    go_wp2
    go_ret
    exact ⟨rfl, rfl⟩
  · go_enter Try.func9, Try.ntmps9
    go_wp2
    go_ret
    exact ⟨rfl, rfl⟩
  · go_enter Try.func9, Try.ntmps9
    go_wp2
    go_ret
    exact ⟨rfl, rfl⟩
  · go_enter Try.func9, Try.ntmps9
    go_wp2
    go_ret
    exact ⟨rfl, rfl⟩
  · go_enter Try.func9, Try.ntmps9
    go_wp2
    go_ret
    exact ⟨rfl, rfl⟩
  · go_enter Try.func9, Try.ntmps9
    go_wp2
    go_ret
    exact ⟨rfl, rfl⟩
  · go_enter Try.func9, Try.ntmps9
    go_wp2
    go_ret
    exact ⟨rfl, rfl⟩
  · go_enter Try.func9, Try.ntmps9
    go_wp2
    go_ret
    exact ⟨rfl, rfl⟩
  · go_enter Try.func9, Try.ntmps9
    go_wp2
    go_ret
    exact ⟨rfl, rfl⟩
  · obtain ⟨k33, k35, k36, k37, k38, k39, k42, k43, k45, k46, k94, k95, k96, k124, k126, h⟩ := h
    have hn : tch n = false := by
      have h1 : nameCh n = false := by simp [nameCh]; omega
      have h2 : markCh n = false := by
        unfold markCh
        rw [List.contains_eq_any_beq]
        simp only [List.any_cons, List.any_nil, Bool.or_false, Bool.or_eq_false_iff, beq_eq_false_iff_ne, ne_eq]
        omega
      unfold tch; rw [h1, h2]; rfl
    rw [hn]
    have e33 : ((n : Int) == 33) = false := by
      have : ¬ (n : Int) = 33 := by omega
      simpa using this
    clear k33
    have e35 : ((n : Int) == 35) = false := by
      have : ¬ (n : Int) = 35 := by omega
      simpa using this
    clear k35
    have e36 : ((n : Int) == 36) = false := by
      have : ¬ (n : Int) = 36 := by omega
      simpa using this
    clear k36
    have e37 : ((n : Int) == 37) = false := by
      have : ¬ (n : Int) = 37 := by omega
      simpa using this
    clear k37
    have e38 : ((n : Int) == 38) = false := by
      have : ¬ (n : Int) = 38 := by omega
      simpa using this
    clear k38
    have e39 : ((n : Int) == 39) = false := by
      have : ¬ (n : Int) = 39 := by omega
      simpa using this
    clear k39
    have e42 : ((n : Int) == 42) = false := by
      have : ¬ (n : Int) = 42 := by omega
      simpa using this
    clear k42
    have e43 : ((n : Int) == 43) = false := by
      have : ¬ (n : Int) = 43 := by omega
      simpa using this
    clear k43
    have e45 : ((n : Int) == 45) = false := by
      have : ¬ (n : Int) = 45 := by omega
      simpa using this
    clear k45
    have e46 : ((n : Int) == 46) = false := by
      have : ¬ (n : Int) = 46 := by omega
      simpa using this
    clear k46
    have e94 : ((n : Int) == 94) = false := by
      have : ¬ (n : Int) = 94 := by omega
      simpa using this
    clear k94
    have e95 : ((n : Int) == 95) = false := by
      have : ¬ (n : Int) = 95 := by omega
      simpa using this
    clear k95
    have e96 : ((n : Int) == 96) = false := by
      have : ¬ (n : Int) = 96 := by omega
      simpa using this
    clear k96
    have e124 : ((n : Int) == 124) = false := by
      have : ¬ (n : Int) = 124 := by omega
      simpa using this
    clear k124
    have e126 : ((n : Int) == 126) = false := by
      have : ¬ (n : Int) = 126 := by omega
      simpa using this
    clear k126
    rcases h with h | ⟨h, h'⟩ | ⟨h, h'⟩ | h
    · go_enter Try.func9, Try.ntmps9
      go_wp2
      go_ret
      exact ⟨rfl, rfl⟩
    · go_enter Try.func9, Try.ntmps9
      go_wp2
      go_ret
      exact ⟨rfl, rfl⟩
    · go_enter Try.func9, Try.ntmps9
      go_wp2
      go_ret
      exact ⟨rfl, rfl⟩
    · go_enter Try.func9, Try.ntmps9
      go_wp2
      go_ret
      exact ⟨rfl, rfl⟩

theorem drop_all (s : ByteArray) (k : Nat) (h : k < s.size) : (s.data.toList.drop k).all bch = (bch (s[k]'h) && (s.data.toList.drop (k + 1)).all bch) := by
  have hl : k < s.data.toList.length := by simpa using h
  rw [List.drop_eq_getElem_cons hl, List.all_cons, Array.getElem_toList]
  rfl

set_option maxHeartbeats 1600000 in
set_option maxRecDepth 100000 in
theorem allTChars_any (s : ByteArray) (hs : s.size ≤ 1048576) (w : World) : Calls Try.prog 7 #[.string s] w fun e w' => e = .returned (.bool (allT s)) ∧ w' = w := by
  have hI := fun n => isTChar_any n
  go_enter Try.func7, Try.ntmps7
  go_wp2
  go_loop [3] (fun i => ∃ k : Nat, k ≤ s.size ∧ i = .int .i64 k ∧ Hid ((s.data.toList.drop k).all bch = allT s)) (fun i => s.size - (intOf i).toNat)
  case atStart => exact ⟨0, Nat.zero_le _, rfl, rfl⟩
  case round =>
    obtain ⟨k, hk, rfl, HE⟩ := hrel
    by_cases hlt : k < s.size
    · have hd := Hid.mk' (drop_all s k hlt)
      have hIb := hI (s[k]'hlt).toNat
      cases hb : tch (s[k]'hlt).toNat with
      | true =>
        rw [hb] at hIb
        go_wp2_with (go_at_call 9; refine (hIb _).mono ?_; rintro e w' ⟨rfl, rfl⟩)
        go_round
        case rel => exact ⟨k + 1, hlt, by simp, by have h1 := hd.out; have h2 := HE.out; rw [h1, bch, hb, Bool.true_and] at h2; exact h2⟩
        case measure => simp [intOf]; omega
      | false =>
        rw [hb] at hIb
        go_wp2_with (go_at_call 9; refine (hIb _).mono ?_; rintro e w' ⟨rfl, rfl⟩)
        go_ret
        refine ⟨?_, rfl⟩
        have h1 := hd.out; have h2 := HE.out
        rw [h1, bch, hb, Bool.false_and] at h2
        rw [← h2]; rfl
    · have hE : allT s = true := by
        have h2 := HE.out
        rw [List.drop_of_length_le (by simp; omega)] at h2
        exact h2.symm
      rw [hE]
      go_wp2
      go_ret
      exact ⟨rfl, rfl⟩
end Go.Proofs.Qxb6616743a
