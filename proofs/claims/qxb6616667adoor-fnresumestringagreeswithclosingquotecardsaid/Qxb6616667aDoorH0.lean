import Derived.Test.Qxb6616667aDoorG2
import Derived.Lib.IndexLaws
import Derived.Lib.SlBytesRow
namespace Go.Proofs.Qxb6616667aDoor
open Go.RowKit

theorem first_take_le {p : UInt8 → Bool} : ∀ (t : List UInt8) (k : Nat), first p (t.take k) ≤ first p t
  | [], k => by simp [first]
  | b :: t, 0 => by simp [first]
  | b :: t, k + 1 => by
    rw [List.take_succ_cons]
    unfold first
    split
    · exact Nat.le_refl _
    · have := first_take_le (p := p) t k
      omega

/-- Bytes that are neither a quote nor a backslash are read over. -/
theorem cq_over : ∀ (n : Nat) (t : List UInt8) (i : Nat), n ≤ t.length → (∀ k (h : k < t.length), k < n → ¬ t[k] = 34 ∧ ¬ t[k] = 92) → cqM t i = cqM (t.drop n) (i + n)
  | 0, t, i, _, _ => rfl
  | n + 1, [], i, hn, _ => by simp at hn
  | n + 1, c :: t, i, hn, h => by
    have h0 : ¬ c = 34 ∧ ¬ c = 92 := h 0 (by simp) (by omega)
    have ih := cq_over n t (i + 1) (by simpa using hn) (fun k hk hkn => by
      have := h (k + 1) (by simpa using hk) (by omega)
      simpa using this)
    rw [cqM_plain t i h0.1 h0.2, ih, List.drop_succ_cons]
    congr 1
    omega
theorem cq_to {d : List UInt8} {i j : Nat} (hij : i ≤ j) (hj : j ≤ d.length) (h : ∀ k (hk : k < d.length), i ≤ k → k < j → ¬ d[k] = 34 ∧ ¬ d[k] = 92) : cqM (d.drop i) i = cqM (d.drop j) j := by
  have := cq_over (j - i) (d.drop i) i (by rw [List.length_drop]; omega) (fun k hk hkn => by
    rw [List.getElem_drop]
    exact h (i + k) (by rw [List.length_drop] at hk; omega) (by omega) (by omega))
  rw [this, List.drop_drop, show i + (j - i) = j by omega]

theorem first_below {p : UInt8 → Bool} : ∀ {t : List UInt8} {k : Nat} (h : k < t.length), k < first p t → p t[k] = false
  | [], k, h, _ => by simp at h
  | b :: t, k, h, hk => by
    unfold first at hk
    cases hb : p b with
    | true => rw [hb, if_pos rfl] at hk; omega
    | false =>
      rw [hb, if_neg Bool.false_ne_true] at hk
      cases k with
      | zero => exact hb
      | succ k => exact first_below (t := t) (by simpa using h) (by omega)
/-- Between a place and where stringStop stops lies no quote and no backslash. -/
theorem stop_between {d : List UInt8} {i k : Nat} (hk : k < d.length) (h1 : i ≤ k) (h2 : k < stopAt false d i) : ¬ d[k] = 34 ∧ ¬ d[k] = 92 := by
  have hl : k - i < (d.drop i).length := by rw [List.length_drop]; omega
  have := first_below (p := stopP false) hl (by unfold stopAt at h2; omega)
  rw [List.getElem_drop] at this
  have e : i + (k - i) = k := by omega
  simp only [e] at this
  simp only [stopP, Bool.false_and, Bool.or_false, Bool.or_eq_false_iff, beq_eq_false_iff_ne, ne_eq] at this
  exact this

/-- Where bytes.IndexByte finds a byte of d between i and e. -/
def idxZ (d : List UInt8) (i e : Nat) (b : UInt8) : Int := Lib.indexByte ((d.drop i).take (e - i)) b
theorem idxZ_cases (d : List UInt8) (i e : Nat) (b : UInt8) (hi : i ≤ e) (he : e ≤ d.length) :
    (idxZ d i e b = -1 ∧ ∀ k (hk : k < d.length), i ≤ k → k < e → ¬ d[k] = b) ∨
    (∃ o : Nat, idxZ d i e b = (o : Int) ∧ i + o < e ∧ (∀ h : i + o < d.length, d[i + o] = b) ∧ ∀ k (hk : k < d.length), i ≤ k → k < i + o → ¬ d[k] = b) := by
  have hge := Lib.indexByte_ge ((d.drop i).take (e - i)) b
  have hat : ∀ k (hk : k < d.length), i ≤ k → k < e → ((d.drop i).take (e - i))[k - i]? = some d[k] := by
    intro k hk h1 h2
    rw [List.getElem?_take, if_pos (by omega), List.getElem?_drop, show i + (k - i) = k by omega, List.getElem?_eq_getElem hk]
  by_cases h : Lib.indexByte ((d.drop i).take (e - i)) b = -1
  · refine Or.inl ⟨h, fun k hk h1 h2 e' => ?_⟩
    have := Lib.indexByte_none h (k - i)
    rw [hat k hk h1 h2, e'] at this
    exact this rfl
  · obtain ⟨o, ho⟩ : ∃ o : Nat, Lib.indexByte ((d.drop i).take (e - i)) b = (o : Int) := ⟨(Lib.indexByte ((d.drop i).take (e - i)) b).toNat, by omega⟩
    obtain ⟨h1, h2⟩ := Lib.indexByte_some ho
    have hlt : o < ((d.drop i).take (e - i)).length := by
      rcases Nat.lt_or_ge o ((d.drop i).take (e - i)).length with h | h
      · exact h
      · rw [List.getElem?_eq_none h] at h1; cases h1
    rw [List.length_take, List.length_drop] at hlt
    refine Or.inr ⟨o, ho, by omega, fun h => ?_, fun k hk hk1 hk2 e' => ?_⟩
    · have := hat (i + o) h (by omega) (by omega)
      rw [show i + o - i = o by omega, h1] at this
      injection this with this
      exact this.symm
    · have := h2 (k - i) (by omega)
      rw [hat k hk hk1 (by omega), e'] at this
      exact this rfl

theorem idx_any (g i e c : Nat) (d : List UInt8) (b : UInt8) (w : World) (hcells : ∀ j (h : j < d.length), w.cell? ⟨g, j, none⟩ = some (.int .u8 d[j].toNat)) (hi : i ≤ e) (he : e ≤ d.length) :
    Calls Tryd.prog 24 #[.slice (some ⟨g, i, none⟩) (e - i) c, .int .u8 b.toNat] w fun r w' => r = .returned (.int .i64 (idxZ d i e b)) ∧ w' = w := by
  have hs : (⟨((d.drop i).take (e - i)).toArray⟩ : ByteArray).size = e - i := by
    show ((d.drop i).take (e - i)).toArray.size = _
    rw [List.size_toArray, List.length_take, List.length_drop]; omega
  have h := Tryd.bytes_IndexByte_bytes g i c ⟨((d.drop i).take (e - i)).toArray⟩ b.toNat w (by
    intro j hj
    rw [hs] at hj
    rw [hcells (i + j) (by omega)]
    congr 3
    refine congrArg UInt8.toNat ?_
    show d[i + j] = ((d.drop i).take (e - i)).toArray[j]
    rw [List.getElem_toArray, List.getElem_take, List.getElem_drop])
  rw [hs] at h
  refine h.mono ?_
  rintro r w' ⟨rfl, rfl⟩
  refine ⟨?_, rfl⟩
  congr 2
  unfold idxZ
  congr 1
  simp
end Go.Proofs.Qxb6616667aDoor
