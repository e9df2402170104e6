import Derived.Test.Qxb6616743aW1
import Derived.Laws.Closers25b
namespace Go.Proofs.Qxb6616743a
open Go.RowKit

theorem tch_high {x : Nat} (h : 128 ≤ x) : tch x = false := by
  unfold tch
  rw [markCh_high h, Bool.or_false]
  simp [nameCh]; omega

def bch (b : UInt8) : Bool := tch b.toNat
/-- Every byte is a character of tokens. -/
def allT (s : ByteArray) : Bool := s.data.toList.all bch
/-- What isToken answers. -/
def tok (s : ByteArray) : Bool := !(s.data.toList.isEmpty) && allT s

theorem idx_from (s : ByteArray) : ∀ (f pos : Nat), s.size ≤ pos + f → (decide (0 ≤ Lib.idxFuncFrom (fun x => !tch x) true s f pos) = !((s.data.toList.drop pos).all bch))
  | 0, pos, h => by
    rw [List.drop_of_length_le (by simpa using h)]; rfl
  | f + 1, pos, h => by
    unfold Lib.idxFuncFrom
    by_cases hp : pos < s.size
    · rw [if_pos hp]
      have hl : pos < s.data.toList.length := by simpa using hp
      rw [List.drop_eq_getElem_cons hl, List.all_cons]
      have hg : s.data.toList[pos] = s[pos]'hp := by rw [Array.getElem_toList]; rfl
      rw [hg]
      by_cases ha : (s[pos]'hp).toNat < 128
      · rw [decode_ascii s pos hp ha]
        have hb : bch (s[pos]'hp) = tch (s[pos]'hp).toNat := rfl
        rw [hb]
        cases ht : tch (s[pos]'hp).toNat with
        | true =>
          have ih := idx_from s f (pos + 1) (by omega)
          simp only [Bool.not_true, Bool.false_eq_true, if_false, Bool.true_and]
          exact ih
        | false => simp
      · have hd := (decode_high s pos hp (by omega)).1
        have hb : bch (s[pos]'hp) = false := tch_high (by omega)
        rw [hb, tch_high hd]
        simp
    · rw [if_neg hp, List.drop_of_length_le (by simp; omega)]
      rfl

theorem idx_all (s : ByteArray) : decide (0 ≤ Lib.idxFunc (fun x => !tch x) true s) = !(allT s) := by
  unfold Lib.idxFunc allT
  rw [idx_from s s.size 0 (by omega)]; rfl

theorem containsFunc_any (s : ByteArray) (w : World) :
    Calls Try.prog 11 #[.string s, .func (.func 12) #[] #[]] w fun e w' => e = .returned (.bool (!(allT s))) ∧ Below w.heap.size w w' := by
  have h := Try.strings_ContainsFunc_grows 12 #[] (enters_of Try.func12 (by kernel_rfl) rfl) (fun x => !tch x) s w (fun W x _ _ => isNotTokenChar_any x W)
  rw [idx_all] at h
  exact h

theorem empty_of {s : ByteArray} (h : s.data.toList.isEmpty = true) : s = ByteArray.empty := by
  have h1 : s.data = #[] := by simpa using h
  cases s; simp only at h1; subst h1; rfl

set_option maxRecDepth 100000 in
theorem isToken_any (s : ByteArray) (w : World) : Calls Try.prog 10 #[.string s] w fun e w' => e = .returned (.bool (tok s)) ∧ Below w.heap.size w w' := by
  cases he : s.data.toList.isEmpty with
  | true =>
    obtain rfl := empty_of he
    go_enter Try.func10, Try.ntmps10
    go_wp2
    go_ret
    exact ⟨rfl, Below.refl _ _⟩
  | false =>
    have hC := containsFunc_any s
    have ht : tok s = allT s := by unfold tok; rw [he]; rfl
    have hne : s.toList.isEmpty = false := by
      have h1 : ¬ s.toList = [] := fun h => by
        rw [toList_nil_iff_emptyBytes] at h; subst h; cases he
      cases hs : s.toList with
      | nil => exact absurd hs h1
      | cons => rfl
    rw [ht]
    generalize allT s = m at hC ⊢
    clear ht he
    go_enter Try.func10, Try.ntmps10
    go_wp2_with (go_at_call 11; refine (hC _).mono ?_; rintro e w' ⟨rfl, hb⟩)
    go_ret
    exact ⟨by simp, hb⟩

set_option maxRecDepth 100000 in
theorem zzIsToken_any (s : ByteArray) (w : World) : Calls Try.prog 6 #[.string s] w fun e w' => e = .returned (.bool (tok s)) ∧ Below w.heap.size w w' := by
  have hC := isToken_any s
  go_enter Try.func6, Try.ntmps6
  go_wp2_with (go_at_call 10; refine (hC _).mono ?_; rintro e w' ⟨rfl, hb⟩)
  go_ret
  exact ⟨rfl, hb⟩
end Go.Proofs.Qxb6616743a
