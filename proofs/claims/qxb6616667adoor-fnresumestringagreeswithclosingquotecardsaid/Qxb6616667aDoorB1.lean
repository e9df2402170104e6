import Derived.Lib.TrailingZeros
namespace Go.Proofs.Qxb6616667aDoor

/-- Bytes as one number, the first lowest. -/
def val : List UInt8 → Nat
  | [] => 0
  | b :: t => b.toNat + 256 * val t
/-- 1 in each of m bytes. -/
def rep : Nat → Nat
  | 0 => 0
  | m + 1 => 1 + 256 * rep m

theorem rep_lt (m : Nat) : 255 * rep m + 1 = 256 ^ m := by
  induction m with
  | zero => rfl
  | succ m ih => rw [Nat.pow_succ]; unfold rep; omega

theorem val_lt (l : List UInt8) : val l < 256 ^ l.length := by
  induction l with
  | nil => simp [val]
  | cons b t ih =>
    have := b.toNat_lt
    simp only [val, List.length_cons, Nat.pow_succ]
    omega

/-- v marks the bytes of l at which p holds, as far as the first of them: 128 in its byte, 0 in each byte ahead of it. -/
def St (p : UInt8 → Bool) : Nat → List UInt8 → Prop
  | v, [] => v = 0
  | v, b :: t => if p b then v % 256 = 128 else v % 256 = 0 ∧ St p (v / 256) t

theorem and_lo (a b : Nat) : (a &&& b) % 256 = (a % 256) &&& (b % 256) := Nat.and_mod_two_pow (n := 8)
theorem or_lo (a b : Nat) : (a ||| b) % 256 = (a % 256) ||| (b % 256) := Nat.or_mod_two_pow (n := 8)
theorem xor_lo (a b : Nat) : (a ^^^ b) % 256 = (a % 256) ^^^ (b % 256) := Nat.xor_mod_two_pow (n := 8)
theorem and_hi (a b : Nat) : (a &&& b) / 256 = (a / 256) &&& (b / 256) := by
  have := Nat.shiftRight_and_distrib (a := a) (b := b) (i := 8)
  simpa [Nat.shiftRight_eq_div_pow] using this
theorem or_hi (a b : Nat) : (a ||| b) / 256 = (a / 256) ||| (b / 256) := by
  have := Nat.shiftRight_or_distrib (a := a) (b := b) (i := 8)
  simpa [Nat.shiftRight_eq_div_pow] using this
theorem xor_hi (a b : Nat) : (a ^^^ b) / 256 = (a / 256) ^^^ (b / 256) := by
  have := Nat.shiftRight_xor_distrib (a := a) (b := b) (i := 8)
  simpa [Nat.shiftRight_eq_div_pow] using this

theorem St.or {p q : UInt8 → Bool} : ∀ {l : List UInt8} {v u : Nat}, St p v l → St q u l → St (fun b => p b || q b) (v ||| u) l
  | [], v, u, h, k => by
    simp only [St] at h k ⊢
    rw [h, k]; rfl
  | b :: t, v, u, h, k => by
    simp only [St] at h k ⊢
    rw [or_lo, or_hi]
    by_cases hp : p b = true
    · have hpq : (p b || q b) = true := by rw [hp]; rfl
      rw [if_pos hp] at h
      rw [if_pos hpq]
      by_cases hq : q b = true
      · rw [if_pos hq] at k; rw [h, k]; rfl
      · rw [if_neg hq] at k; rw [h, k.1]; rfl
    · rw [if_neg hp] at h
      by_cases hq : q b = true
      · have hpq : (p b || q b) = true := by rw [hq]; exact Bool.or_true _
        rw [if_pos hq] at k
        rw [if_pos hpq, h.1, k]; rfl
      · have hpq : ¬ (p b || q b) = true := by simp [hp, hq]
        rw [if_neg hq] at k
        rw [if_neg hpq]
        exact ⟨by rw [h.1, k.1]; rfl, St.or h.2 k.2⟩

/-- The number that the text reckons: (x - c in each byte) and not x and 128 in each byte. -/
def mark (c m x : Nat) : Nat := (((x + 256 ^ m - c * rep m) % 256 ^ m) &&& (256 ^ m - 1 - x)) &&& (128 * rep m)

theorem low_ge1 : ∀ b : Fin 256, 1 ≤ b.val → (((b.val - 1) &&& (255 - b.val)) &&& 128) = 0 := by decide +kernel
theorem low_lt1 : ∀ b : Fin 256, b.val < 1 → (((256 + b.val - 1) &&& (255 - b.val)) &&& 128) = 128 := by decide +kernel
theorem low_ge32 : ∀ b : Fin 256, 32 ≤ b.val → (((b.val - 32) &&& (255 - b.val)) &&& 128) = 0 := by decide +kernel
theorem low_lt32 : ∀ b : Fin 256, b.val < 32 → (((256 + b.val - 32) &&& (255 - b.val)) &&& 128) = 128 := by decide +kernel

theorem mark_st (c : Nat) (hc1 : 1 ≤ c) (hc : c ≤ 128) (hge : ∀ b : Fin 256, c ≤ b.val → (((b.val - c) &&& (255 - b.val)) &&& 128) = 0)
    (hlt : ∀ b : Fin 256, b.val < c → (((256 + b.val - c) &&& (255 - b.val)) &&& 128) = 128) :
    ∀ l : List UInt8, St (fun b => decide (b.toNat < c)) (mark c l.length (val l)) l
  | [] => by simp [St, mark, rep]
  | b :: t => by
    have hb := b.toNat_lt
    have hr := rep_lt t.length
    have hv := val_lt t
    have ih := mark_st c hc1 hc hge hlt t
    have hcr : c * rep t.length ≤ 128 * rep t.length := Nat.mul_le_mul_right _ hc
    have hP : 0 < 256 ^ t.length := Nat.pow_pos (by decide)
    generalize hPd : 256 ^ t.length = P at hr hv hP
    -- the three parts, low byte and the rest
    have e1 : (128 * rep (b :: t).length) % 256 = 128 := by simp only [List.length_cons, rep]; omega
    have e2 : (128 * rep (b :: t).length) / 256 = 128 * rep t.length := by simp only [List.length_cons, rep]; omega
    have e3 : (256 ^ (b :: t).length - 1 - val (b :: t)) % 256 = 255 - b.toNat := by
      simp only [List.length_cons, Nat.pow_succ, val, hPd]; omega
    have e4 : (256 ^ (b :: t).length - 1 - val (b :: t)) / 256 = P - 1 - val t := by
      simp only [List.length_cons, Nat.pow_succ, val, hPd]; omega
    have hcm : c * rep (b :: t).length = c + 256 * (c * rep t.length) := by
      simp only [List.length_cons, rep, Nat.mul_add, Nat.mul_one]
      rw [← Nat.mul_assoc, ← Nat.mul_assoc, Nat.mul_comm c 256]
    have hmul : 256 ^ (b :: t).length = 256 * P := by simp only [List.length_cons, Nat.pow_succ, hPd]; omega
    simp only [St]
    by_cases hlow : b.toNat < c
    · simp only [hlow, decide_true, if_true]
      have e5 : ((val (b :: t) + 256 ^ (b :: t).length - c * rep (b :: t).length) % 256 ^ (b :: t).length) % 256 = 256 + b.toNat - c := by
        rw [hmul, hcm, Nat.mod_mul_right_mod]
        simp only [val]
        generalize c * rep t.length = R at hcr
        omega
      unfold mark
      rw [and_lo, and_lo, e1, e3, e5]
      exact hlt ⟨b.toNat, hb⟩ hlow
    · simp only [hlow, decide_false, Bool.false_eq_true, if_false]
      have e6 : (val (b :: t) + 256 ^ (b :: t).length - c * rep (b :: t).length) = (b.toNat - c) + 256 * (val t + P - c * rep t.length) := by
        rw [hmul, hcm]
        simp only [val]
        generalize c * rep t.length = R at hcr
        omega
      have e5 : ((val (b :: t) + 256 ^ (b :: t).length - c * rep (b :: t).length) % 256 ^ (b :: t).length) % 256 = b.toNat - c := by
        rw [e6, hmul, Nat.mod_mul_right_mod]
        omega
      have e7 : ((val (b :: t) + 256 ^ (b :: t).length - c * rep (b :: t).length) % 256 ^ (b :: t).length) / 256 = (val t + P - c * rep t.length) % P := by
        rw [e6, hmul, Nat.mod_mul_right_div_self]
        congr 1
        omega
      unfold mark at ih ⊢
      rw [and_lo, and_lo, e1, e3, e5, and_hi, and_hi, e2, e4, e7]
      rw [hPd] at ih
      exact ⟨hge ⟨b.toNat, hb⟩ (by show c ≤ b.toNat; omega), ih⟩

theorem mark1_st (l : List UInt8) : St (fun b => decide (b.toNat < 1)) (mark 1 l.length (val l)) l := mark_st 1 (by decide) (by decide) low_ge1 low_lt1 l
theorem mark32_st (l : List UInt8) : St (fun b => decide (b.toNat < 32)) (mark 32 l.length (val l)) l := mark_st 32 (by decide) (by decide) low_ge32 low_lt32 l

/-- The first byte of l at which p holds; l's length where it holds at none. -/
def first (p : UInt8 → Bool) : List UInt8 → Nat
  | [] => 0
  | b :: t => if p b then 0 else 1 + first p t

theorem first_le (p : UInt8 → Bool) : ∀ l, first p l ≤ l.length
  | [] => Nat.le_refl _
  | b :: t => by
    have := first_le p t
    unfold first
    split <;> simp <;> omega

theorem St.zero {p : UInt8 → Bool} : ∀ {l : List UInt8} {v : Nat}, St p v l → (v = 0 ↔ first p l = l.length)
  | [], v, h => by simp only [St] at h; simp [first, h]
  | b :: t, v, h => by
    simp only [St] at h
    unfold first
    cases hp : p b with
    | true =>
      simp only [hp, if_true] at h ⊢
      constructor
      · intro e; rw [e] at h; simp at h
      · intro e; simp at e
    | false =>
      simp only [hp, Bool.false_eq_true, if_false] at h ⊢
      have ih := St.zero h.2
      have := first_le p t
      constructor
      · intro e
        have := ih.1 (by omega)
        simp; omega
      · intro e
        have h2 := ih.2 (by simp at e; omega)
        have h1 := h.1
        omega

theorem ctz_byte {v f : Nat} (h : v % 256 = 128) (hf : 8 ≤ f) : Lib.ctzFrom f v = 7 := by
  obtain ⟨g, rfl⟩ : ∃ g, f = g + 8 := ⟨f - 8, by omega⟩
  have a0 : ¬ v % 2 = 1 := by omega
  have a1 : ¬ v / 2 % 2 = 1 := by omega
  have a2 : ¬ v / 2 / 2 % 2 = 1 := by omega
  have a3 : ¬ v / 2 / 2 / 2 % 2 = 1 := by omega
  have a4 : ¬ v / 2 / 2 / 2 / 2 % 2 = 1 := by omega
  have a5 : ¬ v / 2 / 2 / 2 / 2 / 2 % 2 = 1 := by omega
  have a6 : ¬ v / 2 / 2 / 2 / 2 / 2 / 2 % 2 = 1 := by omega
  have a7 : v / 2 / 2 / 2 / 2 / 2 / 2 / 2 % 2 = 1 := by omega
  simp [Lib.ctzFrom, a0, a1, a2, a3, a4, a5, a6, a7]

theorem ctz_shift {v f : Nat} (h : v % 256 = 0) : Lib.ctzFrom (f + 8) v = 8 + Lib.ctzFrom f (v / 256) := by
  have a0 : ¬ v % 2 = 1 := by omega
  have a1 : ¬ v / 2 % 2 = 1 := by omega
  have a2 : ¬ v / 2 / 2 % 2 = 1 := by omega
  have a3 : ¬ v / 2 / 2 / 2 % 2 = 1 := by omega
  have a4 : ¬ v / 2 / 2 / 2 / 2 % 2 = 1 := by omega
  have a5 : ¬ v / 2 / 2 / 2 / 2 / 2 % 2 = 1 := by omega
  have a6 : ¬ v / 2 / 2 / 2 / 2 / 2 / 2 % 2 = 1 := by omega
  have a7 : ¬ v / 2 / 2 / 2 / 2 / 2 / 2 / 2 % 2 = 1 := by omega
  have e : v / 2 / 2 / 2 / 2 / 2 / 2 / 2 / 2 = v / 256 := by omega
  simp only [Lib.ctzFrom, a0, a1, a2, a3, a4, a5, a6, a7, if_false, e]
  omega

theorem St.ctz {p : UInt8 → Bool} : ∀ {l : List UInt8} {v : Nat}, St p v l → first p l < l.length → Lib.ctzFrom (8 * l.length) v / 8 = first p l
  | [], v, h, hl => by simp at hl
  | b :: t, v, h, hl => by
    simp only [St] at h
    unfold first at hl ⊢
    cases hp : p b with
    | true =>
      simp only [hp, if_true] at h ⊢
      rw [ctz_byte h (by simp; omega)]
    | false =>
      simp only [hp, Bool.false_eq_true, if_false] at h hl ⊢
      have ih := St.ctz h.2 (by simp at hl; omega)
      rw [show 8 * (b :: t).length = 8 * t.length + 8 by simp; omega, ctz_shift h.1]
      omega
end Go.Proofs.Qxb6616667aDoor
