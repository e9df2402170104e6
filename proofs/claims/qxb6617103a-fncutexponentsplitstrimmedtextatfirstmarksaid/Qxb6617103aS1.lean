import Derived.Test.Qxb6617103aI1
namespace Go.Proofs.Qxb6617103a
open Go.RowKit

theorem ba_ext {a b : ByteArray} (h : a.data.toList = b.data.toList) : a = b := by
  cases a; cases b
  simp only at h
  congr
  exact Array.toList_inj.1 h

theorem ext_list (s : ByteArray) (a b : Nat) : (s.extract a b).data.toList = (s.data.toList.take b).drop a := by
  rw [ByteArray.data_extract, Array.toList_extract]
  simp only [List.extract_eq_drop_take']

theorem size_list (s : ByteArray) : s.size = s.data.toList.length := rfl

/-- Does the text begin with a sign? -/
def signL : List UInt8 → Bool
  | [] => false
  | b :: _ => b == 43 || b == 45
def trimL (l : List UInt8) : List UInt8 := if signL l then l.drop 1 else l
def trim (s : ByteArray) : ByteArray := if signL s.data.toList then s.extract 1 s.size else s
def signN (s : ByteArray) : Nat := if signL s.data.toList then 1 else 0

theorem trim_list (s : ByteArray) : (trim s).data.toList = trimL s.data.toList := by
  unfold trim trimL
  split
  · rw [ext_list, List.take_of_length_le (Nat.le_of_eq (size_list s).symm)]
  · rfl

theorem sign_pos {s : ByteArray} (h : signL s.data.toList = true) : 0 < s.size := by
  rw [size_list]
  cases hl : s.data.toList with
  | nil => rw [hl] at h; cases h
  | cons b t => simp

theorem signN_le (s : ByteArray) : signN s ≤ s.size ∧ signN s ≤ 1 := by
  unfold signN
  split
  · exact ⟨sign_pos ‹_›, Nat.le_refl _⟩
  · exact ⟨Nat.zero_le _, Nat.zero_le _⟩

theorem extract_all (s : ByteArray) : s.extract 0 s.size = s := ba_ext (by rw [ext_list, List.take_of_length_le (Nat.le_of_eq (size_list s).symm)]; rfl)

theorem signN_cut (s : ByteArray) : s.extract (signN s) s.size = trim s := by
  unfold signN trim
  split
  · rfl
  · exact extract_all s

theorem trim_size (s : ByteArray) : (trim s).size ≤ s.size := by
  rw [size_list, trim_list, size_list]
  unfold trimL
  split
  · rw [List.length_drop]; omega
  · exact Nat.le_refl _

theorem first_byte (s : ByteArray) (h : 0 < s.size) : ∃ t, s.data.toList = s[0] :: t := by
  have h' : 0 < s.data.toList.length := h
  cases hl : s.data.toList with
  | nil => rw [hl] at h'; exact absurd h' (by simp)
  | cons b t =>
    refine ⟨t, ?_⟩
    have : s.data.toList[0]'h' = s[0] := rfl
    simp only [hl, List.getElem_cons_zero] at this
    rw [this]

/-- idxE: a hit. -/
theorem idx_at {l : List UInt8} {i : Nat} (h : idxE l = i) : i < l.length ∧ NoE l i ∧ ∃ c, l[i]? = some c ∧ (c = 101 ∨ c = 69) := by
  induction l generalizing i with
  | nil => simp [idxE, Lib.indexAny] at h
  | cons b t ih =>
    unfold idxE at h
    rw [Lib.indexAny] at h
    by_cases hb : ([101, 69] : List UInt8).contains b = true
    · rw [if_pos hb] at h
      obtain rfl : i = 0 := by omega
      refine ⟨by simp, fun j x hj _ => absurd hj (Nat.not_lt_zero _), b, rfl, ?_⟩
      simpa using hb
    · rw [if_neg hb] at h
      by_cases hi : (Lib.indexAny t [101, 69] == -1) = true
      · rw [if_pos hi] at h; omega
      · rw [if_neg hi] at h
        have hge := Lib.indexAny_ge [101, 69] t
        have hne : Lib.indexAny t [101, 69] ≠ -1 := by simpa using hi
        obtain ⟨k, rfl⟩ : ∃ k, i = k + 1 := ⟨i - 1, by omega⟩
        obtain ⟨h1, h2, c, h3, h4⟩ := ih (i := k) (by unfold idxE; omega)
        refine ⟨by simp; omega, ?_, c, by simpa using h3, h4⟩
        intro j x hj hx
        cases j with
        | zero =>
          simp at hx
          subst hx
          simpa using hb
        | succ n => exact h2 n x (by omega) (by simpa using hx)

theorem idx_ge (l : List UInt8) : -1 ≤ idxE l := Lib.indexAny_ge _ _

theorem idx_no {l : List UInt8} (h : idxE l = -1) : NoE l l.length := by
  induction l with
  | nil => intro j x hj; exact absurd hj (by simp)
  | cons b t ih =>
    unfold idxE at h
    rw [Lib.indexAny] at h
    by_cases hb : ([101, 69] : List UInt8).contains b = true
    · rw [if_pos hb] at h; omega
    · rw [if_neg hb] at h
      have hge := Lib.indexAny_ge [101, 69] t
      by_cases hi : (Lib.indexAny t [101, 69] == -1) = true
      · have hi' : idxE t = -1 := by unfold idxE; simpa using hi
        intro j x hj hx
        cases j with
        | zero =>
          simp at hx
          subst hx
          simpa using hb
        | succ n => exact ih hi' n x (by simpa using hj) (by simpa using hx)
      · rw [if_neg hi] at h
        have hne : Lib.indexAny t [101, 69] ≠ -1 := by simpa using hi
        omega

theorem idx_mk {l : List UInt8} {i : Nat} {c : UInt8} (h : NoE l i) (hx : l[i]? = some c) (hc : c = 101 ∨ c = 69) : idxE l = i :=
  Lib.indexAny_hit h.any hx (by rcases hc with rfl | rfl <;> decide)
theorem idx_mkno {l : List UInt8} (h : NoE l l.length) : idxE l = -1 := Lib.indexAny_none h.any

theorem NoE.take {l : List UInt8} {i : Nat} (h : NoE l i) : NoE (l.take i) (l.take i).length := by
  intro j x hj hx
  rw [List.getElem?_take] at hx
  split at hx
  · exact h j x (by assumption) hx
  · cases hx

/-- What stands behind the sign and the whole text have a mark or have none alike. -/
theorem idx_trim (l : List UInt8) : (idxE (trimL l) = -1) ↔ (idxE l = -1) := by
  unfold trimL
  split
  · rename_i hs
    cases l with
    | nil => rfl
    | cons b t =>
      have hb : ¬ ([101, 69] : List UInt8).contains b = true := by
        simp only [signL, Bool.or_eq_true, beq_iff_eq] at hs
        rcases hs with rfl | rfl <;> decide
      show idxE t = -1 ↔ idxE (b :: t) = -1
      have hge := idx_ge t
      unfold idxE at hge ⊢
      rw [Lib.indexAny, if_neg hb]
      by_cases hi : (Lib.indexAny t [101, 69] == -1) = true
      · rw [if_pos hi]
        have : Lib.indexAny t [101, 69] = -1 := by simpa using hi
        simp [this]
      · rw [if_neg hi]
        have : Lib.indexAny t [101, 69] ≠ -1 := by simpa using hi
        constructor
        · intro h; exact absurd h this
        · intro h; omega
  · rfl
end Go.Proofs.Qxb6617103a
