import Derived.Test.Qxb6616667aDoorB2
import Derived.Lib.Endian
namespace Go.Proofs.Qxb6616667aDoor
open Go.RowKit

theorem leNat_val : ∀ l : List UInt8, Lib.leNat l = val l
  | [] => rfl
  | b :: t => by rw [Lib.leNat, val, leNat_val t]

theorem val_xor (c : UInt8) : ∀ l : List UInt8, val (l.map (· ^^^ c)) = val l ^^^ (c.toNat * rep l.length)
  | [] => by simp [val, rep]
  | b :: t => by
    have ih := val_xor c t
    have hb := b.toNat_lt
    have hc := c.toNat_lt
    have hbc : (b ^^^ c).toNat = b.toNat ^^^ c.toNat := UInt8.toNat_xor ..
    have hx : b.toNat ^^^ c.toNat < 256 := Nat.xor_lt_two_pow (n := 8) hb hc
    have hr : c.toNat * rep (t.length + 1) = c.toNat + 256 * (c.toNat * rep t.length) := by
      simp only [rep, Nat.mul_add, Nat.mul_one]
      rw [← Nat.mul_assoc, ← Nat.mul_assoc, Nat.mul_comm c.toNat 256]
    simp only [List.map_cons, val, List.length_cons, hbc, ih, hr]
    generalize c.toNat * rep t.length = R
    have lo : ((b.toNat + 256 * val t) ^^^ (c.toNat + 256 * R)) % 256 = b.toNat ^^^ c.toNat := by
      rw [xor_lo]
      congr 1 <;> omega
    have hi : ((b.toNat + 256 * val t) ^^^ (c.toNat + 256 * R)) / 256 = val t ^^^ R := by
      rw [xor_hi]
      congr 1 <;> omega
    have := Nat.div_add_mod ((b.toNat + 256 * val t) ^^^ (c.toNat + 256 * R)) 256
    rw [lo, hi] at this
    omega

theorem St.map {p : UInt8 → Bool} {f : UInt8 → UInt8} : ∀ {l : List UInt8} {v : Nat}, St p v (l.map f) → St (fun b => p (f b)) v l
  | [], v, h => h
  | b :: t, v, h => by
    simp only [List.map_cons, St] at h ⊢
    by_cases hp : p (f b) = true
    · rw [if_pos hp] at h ⊢
      exact h
    · rw [if_neg hp] at h ⊢
      exact ⟨h.1, St.map h.2⟩

theorem St.congr {p q : UInt8 → Bool} (hpq : ∀ b, p b = q b) {l : List UInt8} {v : Nat} (h : St p v l) : St q v l := by
  have : p = q := funext hpq
  rw [← this]; exact h

theorem xor_zero (b c : UInt8) : decide ((b ^^^ c).toNat < 1) = (b == c) := by
  rw [Bool.eq_iff_iff]
  simp only [decide_eq_true_eq, beq_iff_eq]
  constructor
  · intro h
    have h0 : b ^^^ c = 0 := UInt8.toNat_inj.1 (show (b ^^^ c).toNat = 0 by omega)
    have e : b = (b ^^^ c) ^^^ c := by rw [UInt8.xor_assoc, UInt8.xor_self, UInt8.xor_zero]
    rw [e, h0, UInt8.zero_xor]
  · rintro rfl
    simp

/-- A quote, a backslash, or (where ctl says so) a control byte. -/
def stopP (ctl : Bool) (b : UInt8) : Bool := (b == 34 || b == 92) || (ctl && decide (b.toNat < 32))

theorem mark_lt (c m x : Nat) (h : m = 8) : mark c m x < 18446744073709551616 := by
  subst h
  unfold mark
  refine Nat.lt_of_le_of_lt Nat.and_le_left (Nat.lt_of_le_of_lt Nat.and_le_left ?_)
  rw [pow8]
  exact Nat.mod_lt _ (by decide)

/-- What the text reckons of eight bytes. -/
theorem word (l : List UInt8) (h8 : l.length = 8) : ∃ x y1 y2 v1 v2 v3 : Nat, Lib.leNat l = x ∧ x < 18446744073709551616 ∧ y1 < 18446744073709551616 ∧ y2 < 18446744073709551616 ∧
    bits .xor .u64 (x : Int) 2459565876494606882 = (y1 : Int) ∧ bits .xor .u64 (x : Int) 6655295901103053916 = (y2 : Int) ∧
    mark 1 8 y1 = v1 ∧ mark 1 8 y2 = v2 ∧ bits .or .u64 (v1 : Int) (v2 : Int) = (v3 : Int) ∧ v3 < 18446744073709551616 ∧ St (stopP false) v3 l ∧
    ∃ v4 v5 : Nat, mark 32 8 x = v4 ∧ bits .or .u64 (v3 : Int) (v4 : Int) = (v5 : Int) ∧ v5 < 18446744073709551616 ∧ St (stopP true) v5 l := by
  have hx : val l < 18446744073709551616 := by have := val_lt l; rw [h8, pow8] at this; exact this
  have q1 : ((34 : UInt8).toNat * rep 8) = 2459565876494606882 := by decide
  have q2 : ((92 : UInt8).toNat * rep 8) = 6655295901103053916 := by decide
  have e1 := val_xor 34 l
  have e2 := val_xor 92 l
  rw [h8, q1] at e1
  rw [h8, q2] at e2
  have b1 : (val l ^^^ 2459565876494606882) < 18446744073709551616 := by have := val_lt (l.map (· ^^^ (34 : UInt8))); rw [List.length_map, h8, pow8, e1] at this; exact this
  have b2 : (val l ^^^ 6655295901103053916) < 18446744073709551616 := by have := val_lt (l.map (· ^^^ (92 : UInt8))); rw [List.length_map, h8, pow8, e2] at this; exact this
  have x1 : bits .xor .u64 (val l : Int) 2459565876494606882 = ((val l ^^^ 2459565876494606882 : Nat) : Int) := bits_xor_u64_nat (val l) 2459565876494606882 hx (by decide)
  have x2 : bits .xor .u64 (val l : Int) 6655295901103053916 = ((val l ^^^ 6655295901103053916 : Nat) : Int) := bits_xor_u64_nat (val l) 6655295901103053916 hx (by decide)
  have s1 : St (fun b => b == 34) (mark 1 8 (val l ^^^ 2459565876494606882)) l := by
    have := mark1_st (l.map (· ^^^ (34 : UInt8)))
    rw [List.length_map, h8, e1] at this
    exact (St.map this).congr (fun b => xor_zero b 34)
  have s2 : St (fun b => b == 92) (mark 1 8 (val l ^^^ 6655295901103053916)) l := by
    have := mark1_st (l.map (· ^^^ (92 : UInt8)))
    rw [List.length_map, h8, e2] at this
    exact (St.map this).congr (fun b => xor_zero b 92)
  have s4 := mark32_st l
  rw [h8] at s4
  have m1 := mark_lt 1 8 (val l ^^^ 2459565876494606882) rfl
  have m2 := mark_lt 1 8 (val l ^^^ 6655295901103053916) rfl
  have m4 := mark_lt 32 8 (val l) rfl
  have o3 := bits_or_u64_nat _ _ m1 m2
  have m3 : (mark 1 8 (val l ^^^ 2459565876494606882) ||| mark 1 8 (val l ^^^ 6655295901103053916)) < 18446744073709551616 := Nat.or_lt_two_pow (n := 64) m1 m2
  have o5 := bits_or_u64_nat _ _ m3 m4
  refine ⟨val l, _, _, _, _, _, leNat_val l, hx, b1, b2, x1, x2, rfl, rfl, o3, m3, (St.or s1 s2).congr (fun b => by simp [stopP]), _, _, rfl, o5, Nat.or_lt_two_pow (n := 64) m3 m4, ?_⟩
  exact ((St.or s1 s2).or s4).congr (fun b => by simp [stopP])

/-- What TrailingZeros64 then finds. -/
theorem word_hit {p : UInt8 → Bool} {v : Nat} {l : List UInt8} (h8 : l.length = 8) (h : St p v l) : (v = 0 ∧ first p l = 8) ∨ (v ≠ 0 ∧ first p l < 8 ∧ Lib.ctz 64 v / 8 = first p l) := by
  have hz := h.zero
  rw [h8] at hz
  by_cases h0 : v = 0
  · exact Or.inl ⟨h0, hz.1 h0⟩
  · have hl := first_le p l
    have hlt : first p l < 8 := by
      rw [h8] at hl
      have : first p l ≠ 8 := fun e => h0 (hz.2 e)
      omega
    refine Or.inr ⟨h0, hlt, ?_⟩
    have := h.ctz (by omega)
    rw [h8] at this
    unfold Lib.ctz
    rw [if_neg h0]
    exact this
end Go.Proofs.Qxb6616667aDoor
