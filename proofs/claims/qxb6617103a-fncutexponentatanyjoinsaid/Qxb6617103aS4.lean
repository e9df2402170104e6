import Derived.Test.Qxb6617103aS3
namespace Go.Proofs.Qxb6617103a
open Go.RowKit

theorem app_list (a b : ByteArray) : (a ++ b).data.toList = a.data.toList ++ b.data.toList := by
  rw [ByteArray.data_append, Array.toList_append]

theorem app_size (a b : ByteArray) : (a ++ b).size = a.size + b.size := by
  rw [size_list, app_list, List.length_append]; rfl

theorem trimL_join (x : List UInt8) (c : UInt8) (y : List UInt8) (hc : c = 101 ∨ c = 69) : trimL (x ++ c :: y) = trimL x ++ c :: y := by
  cases x with
  | nil =>
    have : signL (c :: y) = false := by rcases hc with rfl | rfl <;> rfl
    show trimL (c :: y) = trimL [] ++ c :: y
    unfold trimL
    rw [if_neg (by rw [this]; exact Bool.false_ne_true), if_neg (by exact Bool.false_ne_true)]
    rfl
  | cons b t =>
    unfold trimL
    have e : signL (b :: t ++ c :: y) = signL (b :: t) := rfl
    rw [e]
    split
    · rfl
    · rfl

theorem idx_join_hit {t : List UInt8} {i : Nat} (h : idxE t = i) (z : List UInt8) : idxE (t ++ z) = i := by
  obtain ⟨h1, h2, c, h3, h4⟩ := idx_at h
  refine idx_mk (c := c) (fun j x hj hx => ?_) ?_ h4
  · rw [List.getElem?_append_left (by omega)] at hx
    exact h2 j x hj hx
  · rw [List.getElem?_append_left h1]; exact h3

theorem idx_join_no {t : List UInt8} (h : idxE t = -1) (c : UInt8) (hc : c = 101 ∨ c = 69) (y : List UInt8) : idxE (t ++ c :: y) = t.length := by
  have h2 := idx_no h
  refine idx_mk (c := c) (fun j x hj hx => ?_) ?_ hc
  · rw [List.getElem?_append_left hj] at hx
    exact h2 j x hj hx
  · rw [List.getElem?_append_right (Nat.le_refl _)]; simp

/-- One byte as a text. -/
def mk1 (c : UInt8) : ByteArray := ⟨#[c]⟩
theorem mk1_list (c : UInt8) : (mk1 c).data.toList = [c] := rfl

theorem join_list (x y : ByteArray) (c : UInt8) : (x ++ mk1 c ++ y).data.toList = x.data.toList ++ c :: y.data.toList := by
  rw [app_list, app_list, mk1_list, List.append_assoc]; rfl

theorem trim_join (x y : ByteArray) (c : UInt8) (hc : c = 101 ∨ c = 69) : trim (x ++ mk1 c ++ y) = trim x ++ mk1 c ++ y :=
  ba_ext (by rw [trim_list, join_list, join_list, trim_list, trimL_join _ _ _ hc])

/-- The join of a text with a mark. -/
theorem join_hit (t y : ByteArray) (c : UInt8) (i : Nat) (h : idxE t.data.toList = i) :
    idxE (t ++ mk1 c ++ y).data.toList = i ∧ (t ++ mk1 c ++ y).extract 0 i = t.extract 0 i ∧
    (t ++ mk1 c ++ y).extract (i + 1) (t ++ mk1 c ++ y).size = t.extract (i + 1) t.size ++ mk1 c ++ y := by
  have h1 := (idx_at h).1
  refine ⟨by rw [join_list]; exact idx_join_hit h _, ba_ext ?_, ba_ext ?_⟩
  · rw [ext_list, ext_list, join_list, List.take_append_of_le_length (by omega)]
  · rw [ext_list, List.take_of_length_le (Nat.le_of_eq (size_list _).symm), join_list, join_list, ext_list, List.take_of_length_le (Nat.le_of_eq (size_list _).symm)]
    rw [List.drop_append_of_le_length (by omega)]

/-- The join of a text without one. -/
theorem join_no (t y : ByteArray) (c : UInt8) (hc : c = 101 ∨ c = 69) (h : idxE t.data.toList = -1) :
    idxE (t ++ mk1 c ++ y).data.toList = t.size ∧ (t ++ mk1 c ++ y).extract 0 t.size = t ∧
    (t ++ mk1 c ++ y).extract (t.size + 1) (t ++ mk1 c ++ y).size = y := by
  refine ⟨by rw [join_list]; exact idx_join_no h c hc _, ba_ext ?_, ba_ext ?_⟩
  · rw [ext_list, join_list, List.drop_zero, size_list, List.take_left]
  · rw [ext_list, List.take_of_length_le (Nat.le_of_eq (size_list _).symm), join_list, size_list]
    rw [List.drop_append, List.drop_of_length_le (by omega)]
    simp
end Go.Proofs.Qxb6617103a
