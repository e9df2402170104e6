import Derived.Test.Qxb6616667aDoorM1
namespace Go.Proofs.Qxb6616667aDoor

/-- The bytes as the grammar of numbers tells them apart: 0 · 1..9 · point · e · E · plus · minus · other. -/
def cls (b : UInt8) : Nat :=
  if b.toNat = 48 then 0 else if 49 ≤ b.toNat ∧ b.toNat ≤ 57 then 1 else if b.toNat = 46 then 2 else if b.toNat = 101 then 3 else if b.toNat = 69 then 4 else if b.toNat = 43 then 5 else if b.toNat = 45 then 6 else 7

def stepC : Nat → Nat → Option Nat
  | 1, 0 => some 2 | 1, 1 => some 3
  | 2, 2 => some 4 | 2, 3 => some 6 | 2, 4 => some 6
  | 3, 0 => some 3 | 3, 1 => some 3 | 3, 2 => some 4 | 3, 3 => some 6 | 3, 4 => some 6
  | 4, 0 => some 5 | 4, 1 => some 5
  | 5, 0 => some 5 | 5, 1 => some 5 | 5, 3 => some 6 | 5, 4 => some 6
  | 6, 0 => some 8 | 6, 1 => some 8 | 6, 5 => some 7 | 6, 6 => some 7
  | 7, 0 => some 8 | 7, 1 => some 8
  | 8, 0 => some 8 | 8, 1 => some 8
  | _, _ => none

def optZ : Option Nat → Int
  | some r => r
  | none => -1
def stepZC (q k : Nat) : Int := optZ (stepC q k)
def stepZ (q : Nat) (b : UInt8) : Int := stepZC q (cls b)
def wholeN (q : Nat) : Bool := q == 2 || q == 3 || q == 5 || q == 8

def numRun : List UInt8 → Nat → Nat → Nat × Nat
  | [], q, i => (i, q)
  | c :: t, q, i => match stepC q (cls c) with | some r => numRun t r (i + 1) | none => (i, q)

theorem bno {n k : Nat} (h : ¬ n = k) : ((n : Int) == (k : Int)) = false := by
  have : ¬ (n : Int) = (k : Int) := by omega
  simpa using this

/-- A byte that is none of these has no such number. -/
def NoMarks (b : UInt8) : Prop := ((b.toNat : Int) == 48) = false ∧ ((b.toNat : Int) == 46) = false ∧ ((b.toNat : Int) == 101) = false ∧ ((b.toNat : Int) == 69) = false ∧ ((b.toNat : Int) == 43) = false ∧ ((b.toNat : Int) == 45) = false

theorem cls_cases (b : UInt8) : (cls b = 0 ∧ b.toNat = 48) ∨ (cls b = 1 ∧ 49 ≤ b.toNat ∧ b.toNat ≤ 57 ∧ NoMarks b) ∨ (cls b = 2 ∧ b.toNat = 46) ∨ (cls b = 3 ∧ b.toNat = 101) ∨ (cls b = 4 ∧ b.toNat = 69) ∨ (cls b = 5 ∧ b.toNat = 43) ∨ (cls b = 6 ∧ b.toNat = 45) ∨
    (cls b = 7 ∧ (b.toNat < 48 ∨ 57 < b.toNat) ∧ NoMarks b) := by
  have hm : ¬ b.toNat = 48 → ¬ b.toNat = 46 → ¬ b.toNat = 101 → ¬ b.toNat = 69 → ¬ b.toNat = 43 → ¬ b.toNat = 45 → NoMarks b := fun h1 h2 h3 h4 h5 h6 =>
    ⟨bno (k := 48) h1, bno (k := 46) h2, bno (k := 101) h3, bno (k := 69) h4, bno (k := 43) h5, bno (k := 45) h6⟩
  unfold cls
  by_cases h0 : b.toNat = 48
  · exact Or.inl ⟨by simp [h0], h0⟩
  by_cases h1 : 49 ≤ b.toNat ∧ b.toNat ≤ 57
  · exact Or.inr (Or.inl ⟨by simp [h0, h1], h1.1, h1.2, hm (by omega) (by omega) (by omega) (by omega) (by omega) (by omega)⟩)
  by_cases h2 : b.toNat = 46
  · exact Or.inr (Or.inr (Or.inl ⟨by simp [h2], h2⟩))
  by_cases h3 : b.toNat = 101
  · exact Or.inr (Or.inr (Or.inr (Or.inl ⟨by simp [h3], h3⟩)))
  by_cases h4 : b.toNat = 69
  · exact Or.inr (Or.inr (Or.inr (Or.inr (Or.inl ⟨by simp [h4], h4⟩))))
  by_cases h5 : b.toNat = 43
  · exact Or.inr (Or.inr (Or.inr (Or.inr (Or.inr (Or.inl ⟨by simp [h5], h5⟩)))))
  by_cases h6 : b.toNat = 45
  · exact Or.inr (Or.inr (Or.inr (Or.inr (Or.inr (Or.inr (Or.inl ⟨by simp [h6], h6⟩))))))
  · exact Or.inr (Or.inr (Or.inr (Or.inr (Or.inr (Or.inr (Or.inr ⟨by simp [h0, h1, h2, h3, h4, h5, h6], by omega, hm h0 h2 h3 h4 h5 h6⟩))))))

theorem dig_cls (b : UInt8) : digB b = decide (cls b ≤ 1) := by
  unfold digB
  rcases cls_cases b with ⟨h, hb⟩ | ⟨h, hb, hb', _⟩ | ⟨h, hb⟩ | ⟨h, hb⟩ | ⟨h, hb⟩ | ⟨h, hb⟩ | ⟨h, hb⟩ | ⟨h, hb, _⟩ <;> rw [h] <;> simp <;> omega

/-- Where the digits end. -/
def digEnd (d : List UInt8) (i : Nat) : Nat := i + first (fun b => !digB b) (d.drop i)
theorem digEnd_le {d : List UInt8} {i : Nat} (h : i ≤ d.length) : i ≤ digEnd d i ∧ digEnd d i ≤ d.length := by
  unfold digEnd
  have := first_le (fun b => !digB b) (d.drop i)
  rw [List.length_drop] at this
  omega
theorem digEnd_end {d : List UInt8} {i : Nat} (h : d.length ≤ i) : digEnd d i = i := by
  unfold digEnd; rw [List.drop_of_length_le h]; rfl
theorem digEnd_no {d : List UInt8} {i : Nat} (h : i < d.length) (hp : digB d[i] = false) : digEnd d i = i := by
  unfold digEnd
  rw [List.drop_eq_getElem_cons h, first, if_pos (by rw [hp]; rfl)]; rfl
theorem digEnd_yes {d : List UInt8} {i : Nat} (h : i < d.length) (hp : digB d[i] = true) : digEnd d (i + 1) = digEnd d i := by
  unfold digEnd
  rw [List.drop_eq_getElem_cons h, first, if_neg (by rw [hp]; decide)]
  omega

theorem cls_le (b : UInt8) : cls b ≤ 7 := by
  rcases cls_cases b with ⟨h, _⟩ | ⟨h, _⟩ | ⟨h, _⟩ | ⟨h, _⟩ | ⟨h, _⟩ | ⟨h, _⟩ | ⟨h, _⟩ | ⟨h, _⟩ <;> omega

theorem numRun_nil {d : List UInt8} {i q : Nat} (h : d.length ≤ i) : numRun (d.drop i) q i = (i, q) := by
  rw [List.drop_of_length_le h]; rfl
theorem numRun_none {d : List UInt8} {i q : Nat} (h : i < d.length) (hs : stepC q (cls d[i]) = none) : numRun (d.drop i) q i = (i, q) := by
  rw [List.drop_eq_getElem_cons h, numRun, hs]
theorem numRun_some {d : List UInt8} {i q r : Nat} (h : i < d.length) (hs : stepC q (cls d[i]) = some r) : numRun (d.drop i) q i = numRun (d.drop (i + 1)) r (i + 1) := by
  rw [List.drop_eq_getElem_cons h, numRun, hs]

theorem dig_loop {q : Nat} (hq : q = 3 ∨ q = 5 ∨ q = 8) {b : UInt8} (hb : digB b = true) : stepC q (cls b) = some q := by
  rw [dig_cls, decide_eq_true_eq] at hb
  rcases (show cls b = 0 ∨ cls b = 1 by omega) with h | h <;> rw [h] <;> rcases hq with rfl | rfl | rfl <;> rfl

/-- Digits are read over, in an integer, a fraction, an exponent. -/
theorem numRun_digits (d : List UInt8) {q : Nat} (hq : q = 3 ∨ q = 5 ∨ q = 8) : ∀ (n i : Nat), d.length - i = n → numRun (d.drop i) q i = numRun (d.drop (digEnd d i)) q (digEnd d i)
  | 0, i, hn => by rw [digEnd_end (by omega)]
  | n + 1, i, hn => by
    have hi : i < d.length := by omega
    cases hb : digB d[i] with
    | true =>
      rw [numRun_some hi (dig_loop hq hb), ← digEnd_yes hi hb]
      exact numRun_digits d hq n (i + 1) (by omega)
    | false => rw [digEnd_no hi hb]
theorem digEnd_stop (d : List UInt8) : ∀ (n i : Nat), d.length - i = n → ∀ h : digEnd d i < d.length, digB d[digEnd d i] = false
  | 0, i, hn, h => by
    have e := digEnd_end (d := d) (i := i) (by omega)
    omega
  | n + 1, i, hn, h => by
    have hi : i < d.length := by omega
    cases hb : digB d[i] with
    | true =>
      have e := digEnd_yes hi hb
      have := digEnd_stop d n (i + 1) (by omega) (by omega)
      simpa only [e] using this
    | false =>
      have e := digEnd_no hi hb
      simpa only [e] using hb
end Go.Proofs.Qxb6616667aDoor
