import Derived.Test.Qxb6616667aDoorE2
namespace Go.Proofs.Qxb6616667aDoor
open Go.RowKit

def sString : ByteArray := ⟨#[97, 32, 115, 116, 114, 105, 110, 103]⟩
/-- The scan behind text. -/
def TextAfter (B : Nat) (num : Int) (lit : ByteArray) (R : SR) (w : World) : Prop :=
  Scan B (if R.more = true then sString else ByteArray.empty) R.l R.h num lit w

theorem stopAt_le (ctl : Bool) {d : List UInt8} {i : Nat} (h : i ≤ d.length) : i ≤ stopAt ctl d i ∧ stopAt ctl d i ≤ d.length := by
  unfold stopAt
  have := first_le (stopP ctl) (d.drop i)
  rw [List.length_drop] at this
  omega
theorem first_hit {p : UInt8 → Bool} : ∀ {l : List UInt8} (h : first p l < l.length), p (l[first p l]'h) = true
  | [], h => by simp at h
  | b :: t, h => by
    cases hp : p b with
    | true =>
      have e : first p (b :: t) = 0 := by rw [first, if_pos hp]
      simp only [e]; exact hp
    | false =>
      have e : first p (b :: t) = first p t + 1 := by rw [first, if_neg (by rw [hp]; exact Bool.false_ne_true)]; omega
      simp only [e, List.getElem_cons_succ]
      exact first_hit (l := t) (by rw [e] at h; simpa using h)
theorem stopAt_hit {ctl : Bool} {d : List UInt8} {i : Nat} (h : stopAt ctl d i < d.length) : stopP ctl d[stopAt ctl d i] = true := by
  have h1 : first (stopP ctl) (d.drop i) < (d.drop i).length := by
    rw [List.length_drop]
    unfold stopAt at h
    omega
  have := first_hit h1
  rw [List.getElem_drop] at this
  exact this
/-- Plain bytes read over, at a place. -/
theorem str_stop {d : List UInt8} {i : Nat} : strM (d.drop i) false 0 false 0 i = strM (d.drop (stopAt true d i)) false 0 false 0 (stopAt true d i) := by
  rw [strM_stop, List.drop_drop]; rfl
/-- An escape read, at a place. -/
theorem str_esc {d : List UInt8} {i : Nat} (l : Bool) (h : Nat) (sl : Bool) (sh : Nat) :
    strM (d.drop i) l h sl sh i = if (escM (d.drop i) l h i).ok = true then strM (d.drop (escM (d.drop i) l h i).pos) (escM (d.drop i) l h i).l (escM (d.drop i) l h i).h sl sh (escM (d.drop i) l h i).pos else ⟨(escM (d.drop i) l h i).pos, false, false, sl, sh⟩ := by
  have hg := escM_ge (d.drop i) l h i
  rw [escM_str (d.drop i) l h i sl sh, List.drop_drop]
  rw [show i + ((escM (d.drop i) l h i).pos - i) = (escM (d.drop i) l h i).pos by omega]

/-- Where a text stands at the head of its loop: it is read to i, all well, the scan says what is still due; or it is not JSON. -/
def AtHead (B : Nat) (cut : ByteArray) (num : Int) (lit : ByteArray) (d : List UInt8) (R : SR) (i : Nat) (ok : Bool) (w : World) : Prop :=
  i ≤ d.length ∧ ((ok = true ∧ ∃ (l : Bool) (h : Nat), Scan B cut l h num lit w ∧ h ≤ 4 ∧ (i < d.length → l = false ∧ h = 0) ∧ strM (d.drop i) l h false 0 i = R) ∨
    (ok = false ∧ ∃ (l : Bool) (h : Nat), Scan B cut l h num lit w ∧ (⟨i, false, false, l, h⟩ : SR) = R))

theorem hexM_h4 : ∀ (t : List UInt8) (h i : Nat), h ≤ 4 → (hexM t h i).h ≤ 4
  | [], h, i, hh => hh
  | c :: t, h, i, hh => by
    unfold hexM
    split
    · split
      · exact hexM_h4 t _ _ (by omega)
      · show 0 ≤ 4; omega
    · show 0 ≤ 4; omega
theorem escM_h4 (t : List UInt8) (l : Bool) (h i : Nat) (hh : h ≤ 4) : (escM t l h i).h ≤ 4 := by
  cases l with
  | false => simp only [escM]; exact hexM_h4 t h i hh
  | true =>
    cases t with
    | nil => exact hh
    | cons c t =>
      simp only [escM]
      split
      · exact hexM_h4 t 4 _ (by omega)
      · split
        · exact hexM_h4 t h _ hh
        · show 0 ≤ 4; omega

/-- What escape leaves is where the loop's head wants it. -/
theorem head_of_esc {B : Nat} {cut : ByteArray} {l : Bool} {h : Nat} {num : Int} {lit : ByteArray} {d : List UInt8} {R : SR} {i : Nat} {lf : Bool} {w : World} (hi : i ≤ d.length) (hh : h ≤ 4)
    (hA : EscAfter B cut l h num lit (escM (d.drop i) lf h i) w) {sl : Bool} {sh : Nat} (hsl : sl = l) (hsh : sh = h) (hR : strM (d.drop i) lf h sl sh i = R) :
    AtHead B cut num lit d R (escM (d.drop i) lf h i).pos (escM (d.drop i) lf h i).ok w := by
  subst hsl hsh
  have hg := escM_ge (d.drop i) lf sh i
  rw [List.length_drop] at hg
  rw [str_esc] at hR
  have hpl := escM_plain (d.drop i) lf sh i
  have h4 := escM_h4 (d.drop i) lf sh i hh
  rw [List.length_drop] at hpl
  unfold EscAfter at hA
  generalize escM (d.drop i) lf sh i = E at hA hg hR hpl h4 ⊢
  refine ⟨by omega, ?_⟩
  cases hok : E.ok with
  | true =>
    rw [hok, if_pos rfl] at hA hR
    refine Or.inl ⟨rfl, E.l, E.h, hA, h4, fun hlt => hpl hok (by omega), ?_⟩
    rw [← hR]
    by_cases hlt : E.pos < d.length
    · obtain ⟨e1, e2⟩ := hpl hok (by omega)
      rw [e1, e2, strM_free _ sl sh]
    · rw [List.drop_of_length_le (by omega)]; rfl
  | false =>
    rw [hok, if_neg Bool.false_ne_true] at hA hR
    exact Or.inr ⟨rfl, sl, sh, hA, hR⟩
end Go.Proofs.Qxb6616667aDoor
