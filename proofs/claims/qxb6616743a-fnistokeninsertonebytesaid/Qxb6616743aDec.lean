import Derived.Laws.RangeAny
import Derived.Lib.Bytealg
import Derived.Lib.Small
namespace Go.Proofs.Qxb6616743a

/-- A rune that begins with a byte from 128 on is made of such bytes alone. -/
theorem decode_bytes (s : ByteArray) (pos : Nat) (h : pos < s.size) (ha : 128 ≤ (s[pos]'h).toNat) :
    ∀ k, k < (Utf8.decode s pos).2 → pos + k < s.size ∧ 128 ≤ (s.get! (pos + k)).toNat := by
  have h0 : 128 ≤ (s.get! (pos + 0)).toNat := by rw [get_at s pos h]; exact ha
  have hn : ¬ (s.get! (pos + 0)).toNat < 128 := by omega
  have key : ∀ k, (pos + k < s.size && (s.get! (pos + k)).toNat / 64 == 2) = true → pos + k < s.size ∧ 128 ≤ (s.get! (pos + k)).toNat := by
    intro k hk
    simp only [Bool.and_eq_true, decide_eq_true_eq, beq_iff_eq] at hk
    exact ⟨hk.1, by omega⟩
  have one : ∀ k, k < 1 → pos + k < s.size ∧ 128 ≤ (s.get! (pos + k)).toNat := by
    intro k hk
    obtain rfl : k = 0 := by omega
    exact ⟨h, h0⟩
  simp only [Utf8.decode, hn, if_false]
  split
  · rename_i hc
    simp only [Bool.and_eq_true] at hc
    have k1 := key 1 (by simpa using hc.2)
    split
    · intro k hk
      rcases (show k = 0 ∨ k = 1 by omega) with rfl | rfl
      · exact ⟨h, h0⟩
      · exact k1
    · exact one
  · split
    · rename_i hc
      simp only [Bool.and_eq_true] at hc
      have k1 := key 1 (by simpa using hc.1.2)
      have k2 := key 2 (by simpa using hc.2)
      split
      · intro k hk
        rcases (show k = 0 ∨ k = 1 ∨ k = 2 by omega) with rfl | rfl | rfl
        · exact ⟨h, h0⟩
        · exact k1
        · exact k2
      · exact one
    · split
      · rename_i hc
        simp only [Bool.and_eq_true] at hc
        have k1 := key 1 (by simpa using hc.1.1.2)
        have k2 := key 2 (by simpa using hc.1.2)
        have k3 := key 3 (by simpa using hc.2)
        split
        · intro k hk
          rcases (show k = 0 ∨ k = 1 ∨ k = 2 ∨ k = 3 by omega) with rfl | rfl | rfl | rfl
          · exact ⟨h, h0⟩
          · exact k1
          · exact k2
          · exact k3
        · exact one
      · exact one

/-- Two to four bytes, the last from 128 on. -/
def HighEnd (R : ByteArray) : Prop := 2 ≤ R.size ∧ R.size ≤ 4 ∧ ∀ hz : R.size - 1 < R.size, 128 ≤ (R[R.size - 1]'hz).toNat

/-- The text of a rune from 128 on that is valid. -/
theorem encode_high (r : Int) (h : 128 ≤ r) (hv : Lib.validRune r = true) : HighEnd (Utf8.encode r) := by
  have hval : Utf8.valid r = true := by
    simp only [Lib.validRune, decide_eq_true_eq] at hv
    simp only [Utf8.valid, Bool.or_eq_true, Bool.and_eq_true, decide_eq_true_eq]
    omega
  have hb : ∀ n : Nat, 128 ≤ (UInt8.ofNat (128 + n % 64)).toNat := by
    intro n
    rw [UInt8.toNat_ofNat_of_lt' (by show 128 + n % 64 < 256; omega)]
    omega
  unfold Utf8.encode
  simp only [hval, if_true]
  rw [if_neg (by omega)]
  split
  · exact ⟨Nat.le_refl 2, by show 2 ≤ 4; omega, fun _ => hb _⟩
  · split
    · exact ⟨by show 2 ≤ 3; omega, by show 3 ≤ 4; omega, fun _ => hb _⟩
    · exact ⟨by show 2 ≤ 4; omega, by show 4 ≤ 4; omega, fun _ => hb _⟩
end Go.Proofs.Qxb6616743a
