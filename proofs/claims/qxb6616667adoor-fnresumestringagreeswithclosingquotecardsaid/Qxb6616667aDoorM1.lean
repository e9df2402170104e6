import Derived.Test.Qxb6616667aDoorK1
namespace Go.Proofs.Qxb6616667aDoor

def digB (b : UInt8) : Bool := decide (48 ≤ b.toNat ∧ b.toNat ≤ 57)
def hexB (b : UInt8) : Bool := decide (48 ≤ b.toNat ∧ b.toNat ≤ 57) || decide (97 ≤ b.toNat ∧ b.toNat ≤ 102) || decide (65 ≤ b.toNat ∧ b.toNat ≤ 70)
def simN (n : Nat) : Bool := n == 34 || n == 92 || n == 47 || n == 98 || n == 102 || n == 110 || n == 114 || n == 116
def simB (b : UInt8) : Bool := simN b.toNat

/-- What reading a string's bytes comes to: the index, whether it is JSON, whether it goes on, the escape still due. -/
structure SR where
  pos : Nat
  ok : Bool
  more : Bool
  l : Bool
  h : Nat

def strM : List UInt8 → Bool → Nat → Bool → Nat → Nat → SR
  | [], l, h, _, _, i => ⟨i, true, true, l, h⟩
  | c :: t, l, h, sl, sh, i =>
    if l = true then
      if c = 117 then strM t false 4 sl sh (i + 1)
      else if simB c = true then strM t false h sl sh (i + 1)
      else ⟨i, false, false, sl, sh⟩
    else if 0 < h then
      if hexB c = true then strM t false (h - 1) sl sh (i + 1) else ⟨i, false, false, sl, sh⟩
    else if c = 34 then ⟨i + 1, true, false, false, 0⟩
    else if c = 92 then strM t true 0 false 0 (i + 1)
    else if c.toNat < 32 then ⟨i, false, false, false, 0⟩
    else strM t false 0 false 0 (i + 1)

/-- From a plain place on, where the escape began does not matter. -/
theorem strM_free (t : List UInt8) (sl sh i) : strM t false 0 sl sh i = strM t false 0 false 0 i := by
  cases t with
  | nil => rfl
  | cons c t => simp [strM]

structure ER where
  pos : Nat
  ok : Bool
  l : Bool
  h : Nat

def hexM : List UInt8 → Nat → Nat → ER
  | [], h, i => ⟨i, true, false, h⟩
  | c :: t, h, i => if 0 < h then (if hexB c = true then hexM t (h - 1) (i + 1) else ⟨i, false, false, 0⟩) else ⟨i, true, false, 0⟩

def escM : List UInt8 → Bool → Nat → Nat → ER
  | t, false, h, i => hexM t h i
  | [], true, h, i => ⟨i, true, true, h⟩
  | c :: t, true, h, i => if c = 117 then hexM t 4 (i + 1) else if simB c = true then hexM t h (i + 1) else ⟨i, false, false, 0⟩

theorem hexM_ge : ∀ (t : List UInt8) (h i : Nat), i ≤ (hexM t h i).pos ∧ (hexM t h i).pos ≤ i + t.length
  | [], h, i => by simp [hexM]
  | c :: t, h, i => by
    unfold hexM
    split
    · split
      · have := hexM_ge t (h - 1) (i + 1)
        simp only [List.length_cons]; omega
      · simp
    · simp
theorem hexM_l : ∀ (t : List UInt8) (h i : Nat), (hexM t h i).l = false
  | [], h, i => rfl
  | c :: t, h, i => by
    unfold hexM
    split
    · split
      · exact hexM_l t _ _
      · rfl
    · rfl
theorem hexM_h : ∀ (t : List UInt8) (h i : Nat), (hexM t h i).ok = true → (hexM t h i).pos < i + t.length → (hexM t h i).h = 0
  | [], h, i, _, hp => by simp [hexM] at hp
  | c :: t, h, i, hk, hp => by
    unfold hexM at hk hp ⊢
    by_cases h0 : 0 < h
    · rw [if_pos h0] at hk hp ⊢
      by_cases hb : hexB c = true
      · rw [if_pos hb] at hk hp ⊢
        exact hexM_h t _ _ hk (by simp only [List.length_cons] at hp; omega)
      · rw [if_neg hb]
    · rw [if_neg h0]
theorem hexM_str : ∀ (t : List UInt8) (h i : Nat) (sl : Bool) (sh : Nat),
    strM t false h sl sh i = if (hexM t h i).ok = true then strM (t.drop ((hexM t h i).pos - i)) false (hexM t h i).h sl sh (hexM t h i).pos else ⟨(hexM t h i).pos, false, false, sl, sh⟩
  | [], h, i, sl, sh => by simp [hexM]
  | c :: t, h, i, sl, sh => by
    unfold hexM
    by_cases h0 : 0 < h
    · by_cases hb : hexB c = true
      · have ih := hexM_str t (h - 1) (i + 1) sl sh
        have hg := hexM_ge t (h - 1) (i + 1)
        simp only [h0, hb, if_true]
        rw [strM]
        simp only [h0, hb, if_true, Bool.false_eq_true, if_false]
        rw [ih]
        have : (hexM t (h - 1) (i + 1)).pos - i = ((hexM t (h - 1) (i + 1)).pos - (i + 1)) + 1 := by omega
        rw [this, List.drop_succ_cons]
      · simp only [h0, hb, if_true]
        rw [strM]
        simp [h0, hb]
    · have : h = 0 := by omega
      subst this
      simp

theorem escM_ge (t : List UInt8) (l : Bool) (h i : Nat) : i ≤ (escM t l h i).pos ∧ (escM t l h i).pos ≤ i + t.length := by
  cases l with
  | false => simp only [escM]; exact hexM_ge t h i
  | true =>
    cases t with
    | nil => simp [escM]
    | cons c t =>
      simp only [escM]
      split
      · have := hexM_ge t 4 (i + 1); simp only [List.length_cons]; omega
      · split
        · have := hexM_ge t h (i + 1); simp only [List.length_cons]; omega
        · simp
theorem escM_str (t : List UInt8) (l : Bool) (h i : Nat) (sl : Bool) (sh : Nat) :
    strM t l h sl sh i = if (escM t l h i).ok = true then strM (t.drop ((escM t l h i).pos - i)) (escM t l h i).l (escM t l h i).h sl sh (escM t l h i).pos else ⟨(escM t l h i).pos, false, false, sl, sh⟩ := by
  cases l with
  | false => simp only [escM]; rw [hexM_l]; exact hexM_str t h i sl sh
  | true =>
    cases t with
    | nil => simp [escM]
    | cons c t =>
      simp only [escM]
      by_cases hu : c = 117
      · subst hu
        rw [strM]
        simp only [if_true]
        rw [hexM_l, hexM_str t 4 (i + 1) sl sh]
        have hg := hexM_ge t 4 (i + 1)
        have : (hexM t 4 (i + 1)).pos - i = ((hexM t 4 (i + 1)).pos - (i + 1)) + 1 := by omega
        rw [this, List.drop_succ_cons]
      · by_cases hs : simB c = true
        · rw [strM]
          simp only [if_true, hu, if_false, hs]
          rw [hexM_l, hexM_str t h (i + 1) sl sh]
          have hg := hexM_ge t h (i + 1)
          have : (hexM t h (i + 1)).pos - i = ((hexM t h (i + 1)).pos - (i + 1)) + 1 := by omega
          rw [this, List.drop_succ_cons]
        · rw [strM]
          simp [hu, hs]
theorem escM_plain (t : List UInt8) (l : Bool) (h i : Nat) (hk : (escM t l h i).ok = true) (hp : (escM t l h i).pos < i + t.length) : (escM t l h i).l = false ∧ (escM t l h i).h = 0 := by
  cases l with
  | false => simp only [escM] at hk hp ⊢; exact ⟨hexM_l _ _ _, hexM_h t h i hk hp⟩
  | true =>
    cases t with
    | nil => simp [escM] at hp
    | cons c t =>
      simp only [escM] at hk hp ⊢
      by_cases hu : c = 117
      · rw [if_pos hu] at hk hp ⊢
        exact ⟨hexM_l _ _ _, hexM_h t 4 (i + 1) hk (by simp only [List.length_cons] at hp; omega)⟩
      · rw [if_neg hu] at hk hp ⊢
        by_cases hs : simB c = true
        · rw [if_pos hs] at hk hp ⊢
          exact ⟨hexM_l _ _ _, hexM_h t h (i + 1) hk (by simp only [List.length_cons] at hp; omega)⟩
        · rw [if_neg hs] at hk; cases hk

/-- Plain bytes are read over. -/
theorem strM_stop : ∀ (t : List UInt8) (i : Nat), strM t false 0 false 0 i = strM (t.drop (first (stopP true) t)) false 0 false 0 (i + first (stopP true) t)
  | [], i => rfl
  | c :: t, i => by
    cases hp : stopP true c with
    | true => simp [first, hp]
    | false =>
      have ih := strM_stop t (i + 1)
      have hp' := hp
      simp only [stopP, Bool.or_eq_false_iff, Bool.and_eq_false_iff, beq_eq_false_iff_ne, ne_eq, decide_eq_false_iff_not, Bool.true_eq_false, false_or] at hp
      obtain ⟨⟨h1, h2⟩, h3⟩ := hp
      have hf : first (stopP true) (c :: t) = first (stopP true) t + 1 := by
        rw [first, if_neg (by rw [hp']; exact Bool.false_ne_true)]
        omega
      rw [hf, List.drop_succ_cons, strM]
      rw [if_neg Bool.false_ne_true, if_neg (Nat.lt_irrefl 0), if_neg h1, if_neg h2, if_neg h3, ih]
      congr 1
      omega

/-- closingQuote, plainly. -/
def cqM : List UInt8 → Nat → Option Nat × Bool
  | [], _ => (none, false)
  | c :: t, i => if c = 34 then (some i, false) else if c = 92 then (match t with | [] => (none, true) | _ :: t' => cqM t' (i + 2)) else cqM t (i + 1)

theorem cqM_quote (t : List UInt8) (i : Nat) : cqM (34 :: t) i = (some i, false) := by cases t <;> simp [cqM]
theorem cqM_last (i : Nat) : cqM [92] i = (none, true) := by simp [cqM]
theorem cqM_slash (c : UInt8) (t : List UInt8) (i : Nat) : cqM (92 :: c :: t) i = cqM t (i + 2) := by simp [cqM]
theorem cqM_plain {c : UInt8} (t : List UInt8) (i : Nat) (h1 : ¬ c = 34) (h2 : ¬ c = 92) : cqM (c :: t) i = cqM t (i + 1) := by cases t <;> simp [cqM, h1, h2]

def cqS (t : List UInt8) (l : Bool) (i : Nat) : Option Nat × Bool :=
  if l = true then (match t with | [] => (none, true) | _ :: t' => cqM t' (i + 1)) else cqM t i

theorem hex_plain {c : UInt8} (h : hexB c = true) : ¬ c = 34 ∧ ¬ c = 92 := by
  constructor
  · rintro rfl; revert h; decide
  · rintro rfl; revert h; decide

theorem str_cq : ∀ (t : List UInt8) (l : Bool) (h : Nat) (sl : Bool) (sh i : Nat), (strM t l h sl sh i).ok = true →
    cqS t l i = if (strM t l h sl sh i).more = true then (none, (strM t l h sl sh i).l) else (some ((strM t l h sl sh i).pos - 1), false)
  | [], l, h, sl, sh, i, _ => by cases l <;> simp [strM, cqS, cqM]
  | c :: t, l, h, sl, sh, i, hk => by
    rw [strM] at hk ⊢
    cases l with
    | true =>
      simp only [if_true] at hk ⊢
      have e : cqS (c :: t) true i = cqS t false (i + 1) := rfl
      rw [e]
      by_cases hu : c = 117
      · rw [if_pos hu] at hk ⊢
        exact str_cq t false 4 sl sh (i + 1) hk
      · rw [if_neg hu] at hk ⊢
        by_cases hs : simB c = true
        · rw [if_pos hs] at hk ⊢
          exact str_cq t false h sl sh (i + 1) hk
        · rw [if_neg hs] at hk; cases hk
    | false =>
      simp only [Bool.false_eq_true, if_false] at hk ⊢
      by_cases h0 : 0 < h
      · rw [if_pos h0] at hk ⊢
        by_cases hb : hexB c = true
        · rw [if_pos hb] at hk ⊢
          have hp := hex_plain hb
          have e : cqS (c :: t) false i = cqS t false (i + 1) := cqM_plain t i hp.1 hp.2
          rw [e]
          exact str_cq t false (h - 1) sl sh (i + 1) hk
        · rw [if_neg hb] at hk; cases hk
      · rw [if_neg h0] at hk ⊢
        by_cases h1 : c = 34
        · rw [if_pos h1]
          subst h1
          exact cqM_quote t i
        · rw [if_neg h1] at hk ⊢
          by_cases h2 : c = 92
          · rw [if_pos h2] at hk ⊢
            have e : cqS (c :: t) false i = cqS t true (i + 1) := by
              subst h2
              cases t <;> simp [cqS, cqM]
            rw [e]
            exact str_cq t true 0 false 0 (i + 1) hk
          · rw [if_neg h2] at hk ⊢
            by_cases h3 : c.toNat < 32
            · rw [if_pos h3] at hk; cases hk
            · rw [if_neg h3] at hk ⊢
              have e : cqS (c :: t) false i = cqS t false (i + 1) := cqM_plain t i h1 h2
              rw [e]
              exact str_cq t false 0 false 0 (i + 1) hk

/-- The hex digits still due hold no quote and no backslash. -/
theorem cq_hex : ∀ (t : List UInt8) (h : Nat) (sl : Bool) (sh i : Nat), (strM t false h sl sh i).ok = true → h ≤ t.length → cqM t i = cqM (t.drop h) (i + h)
  | t, 0, sl, sh, i, _, _ => rfl
  | [], h + 1, sl, sh, i, _, hl => by simp at hl
  | c :: t, h + 1, sl, sh, i, hk, hl => by
    rw [strM] at hk
    simp only [Bool.false_eq_true, if_false, Nat.zero_lt_succ, if_true, Nat.add_sub_cancel] at hk
    by_cases hb : hexB c = true
    · rw [if_pos hb] at hk
      have hp := hex_plain hb
      have ih := cq_hex t h sl sh (i + 1) hk (by simpa using hl)
      rw [List.drop_succ_cons, show i + (h + 1) = i + 1 + h by omega, ← ih]
      exact cqM_plain t i hp.1 hp.2
    · rw [if_neg hb] at hk; cases hk

/-- The end that closingQuote finds, from past the escape still due, is the end that the automaton finds. -/
theorem str_close (d : List UInt8) (l : Bool) (h : Nat) (hlh : l = true → h = 0) (hk : (strM d l h l h 0).ok = true) (hs : (if l = true then 1 else h) ≤ d.length) :
    cqM (d.drop (if l = true then 1 else h)) (if l = true then 1 else h) = if (strM d l h l h 0).more = true then (none, (strM d l h l h 0).l) else (some ((strM d l h l h 0).pos - 1), false) := by
  have A := str_cq d l h l h 0 hk
  cases l with
  | true =>
    rw [if_pos rfl] at hs ⊢
    cases d with
    | nil => simp at hs
    | cons c t => rw [← A]; rfl
  | false =>
    rw [if_neg Bool.false_ne_true] at hs ⊢
    have B := cq_hex d h false h 0 hk hs
    rw [Nat.zero_add] at B
    rw [← B, ← A]; rfl
end Go.Proofs.Qxb6616667aDoor
