import Derived.Test.Qxb6616667aDoorB3
import Derived.Outline
namespace Go.Proofs.Qxb6616667aDoor
open Go.RowKit

/-- a is where the bytes d lie, from place 0 of a block on (anything where there are none). -/
def Chunk (w : World) (a : Option Addr) (d : List UInt8) : Prop := ∀ j (h : j < d.length), ∃ g, a = some ⟨g, 0, none⟩ ∧ w.cell? ⟨g, j, none⟩ = some (.int .u8 d[j].toNat)

theorem Chunk.below {w w' : World} {a : Option Addr} {d : List UInt8} (h : Chunk w a d) (hb : Below w.heap.size w w') : Chunk w' a d := by
  intro j hj
  obtain ⟨g, hg, hc⟩ := h j hj
  exact ⟨g, hg, by rw [hb.cell (p := ⟨g, j, none⟩) (World.block_lt_of_cell? w _ hc)]; exact hc⟩

theorem Chunk.at {w : World} {a : Option Addr} {d : List UInt8} (h : Chunk w a d) (hd : d ≠ []) : ∃ g, a = some ⟨g, 0, none⟩ ∧ ∀ j (h : j < d.length), w.cell? ⟨g, j, none⟩ = some (.int .u8 d[j].toNat) := by
  have h0 : 0 < d.length := List.length_pos_iff.2 hd
  obtain ⟨g, hg, _⟩ := h 0 h0
  refine ⟨g, hg, fun j hj => ?_⟩
  obtain ⟨g', hg', hc⟩ := h j hj
  rw [hg] at hg'
  cases hg'
  exact hc

/-- The table of math/bits. -/
def Tab (w : World) : Prop := 1 < w.heap.size ∧ TabAt 1 Lib.deBruijn64tab w
theorem Tab.below {w w' : World} (h : Tab w) (hb : Below w.heap.size w w') : Tab w' :=
  ⟨Nat.lt_of_lt_of_le h.1 hb.size, fun j hj => by rw [hb.cell (p := ⟨1, j, none⟩) h.1]; exact h.2 j hj⟩

/-- Where stringStop stops. -/
def stopAt (ctl : Bool) (d : List UInt8) (f : Nat) : Nat := f + first (stopP ctl) (d.drop f)

theorem first_append {p : UInt8 → Bool} : ∀ {l r : List UInt8}, first p l = l.length → first p (l ++ r) = l.length + first p r
  | [], r, _ => by simp
  | b :: t, r, h => by
    unfold first at h
    cases hp : p b with
    | true => rw [hp, if_pos rfl] at h; simp at h
    | false =>
      rw [hp, if_neg Bool.false_ne_true] at h
      have := first_le p t
      rw [List.cons_append, first, hp, if_neg Bool.false_ne_true, first_append (l := t) (by simp at h; omega)]
      simp; omega

theorem first_append_lt {p : UInt8 → Bool} : ∀ {l r : List UInt8}, first p l < l.length → first p (l ++ r) = first p l
  | [], r, h => by simp at h
  | b :: t, r, h => by
    unfold first at h ⊢
    cases hp : p b with
    | true => simp [hp]
    | false =>
      simp only [hp, Bool.false_eq_true, if_false, List.cons_append] at h ⊢
      rw [first_append_lt (l := t) (by simp at h; omega)]

theorem stop_eight_no {ctl : Bool} {d : List UInt8} {f : Nat} (h : f + 8 ≤ d.length) (hf : first (stopP ctl) ((d.drop f).take 8) = 8) : stopAt ctl d (f + 8) = stopAt ctl d f := by
  unfold stopAt
  have e : d.drop f = (d.drop f).take 8 ++ d.drop (f + 8) := by
    rw [← List.drop_drop, List.take_append_drop]
  have hl : ((d.drop f).take 8).length = 8 := by rw [List.length_take, List.length_drop]; omega
  rw [e, first_append (by rw [hl]; exact hf), hl]
  omega
theorem stop_eight_hit {ctl : Bool} {d : List UInt8} {f : Nat} (h : f + 8 ≤ d.length) (hf : first (stopP ctl) ((d.drop f).take 8) < 8) : stopAt ctl d f = f + first (stopP ctl) ((d.drop f).take 8) := by
  unfold stopAt
  have e : d.drop f = (d.drop f).take 8 ++ d.drop (f + 8) := by
    rw [← List.drop_drop, List.take_append_drop]
  have hl : ((d.drop f).take 8).length = 8 := by rw [List.length_take, List.length_drop]; omega
  have : first (stopP ctl) (d.drop f) = first (stopP ctl) ((d.drop f).take 8 ++ d.drop (f + 8)) := by rw [← e]
  rw [this, first_append_lt (by rw [hl]; exact hf)]
theorem stop_end {ctl : Bool} {d : List UInt8} {f : Nat} (h : d.length ≤ f) : stopAt ctl d f = f := by
  unfold stopAt
  rw [List.drop_of_length_le h]; rfl
theorem stop_hit {ctl : Bool} {d : List UInt8} {f : Nat} (h : f < d.length) (hp : stopP ctl d[f] = true) : stopAt ctl d f = f := by
  unfold stopAt
  rw [List.drop_eq_getElem_cons h, first, if_pos hp]; rfl
theorem stop_step {ctl : Bool} {d : List UInt8} {f : Nat} (h : f < d.length) (hp : stopP ctl d[f] = false) : stopAt ctl d (f + 1) = stopAt ctl d f := by
  unfold stopAt
  rw [List.drop_eq_getElem_cons h, first, if_neg (by rw [hp]; exact Bool.false_ne_true)]
  omega

/-- Eight bytes in a row, one by one. -/
theorem eight {d : List UInt8} {f : Nat} (h : f + 8 ≤ d.length) : ∃ b0 b1 b2 b3 b4 b5 b6 b7, (d.drop f).take 8 = [b0, b1, b2, b3, b4, b5, b6, b7] ∧
    ∀ (w : World) (g : Nat), (∀ j (h : j < d.length), w.cell? ⟨g, j, none⟩ = some (.int .u8 d[j].toNat)) →
      w.cell? ⟨g, f, none⟩ = some (.int .u8 b0.toNat) ∧ w.cell? ⟨g, f + 1, none⟩ = some (.int .u8 b1.toNat) ∧ w.cell? ⟨g, f + 2, none⟩ = some (.int .u8 b2.toNat) ∧ w.cell? ⟨g, f + 3, none⟩ = some (.int .u8 b3.toNat) ∧
      w.cell? ⟨g, f + 4, none⟩ = some (.int .u8 b4.toNat) ∧ w.cell? ⟨g, f + 5, none⟩ = some (.int .u8 b5.toNat) ∧ w.cell? ⟨g, f + 6, none⟩ = some (.int .u8 b6.toNat) ∧ w.cell? ⟨g, f + 7, none⟩ = some (.int .u8 b7.toNat) := by
  refine ⟨d[f], d[f + 1], d[f + 2], d[f + 3], d[f + 4], d[f + 5], d[f + 6], d[f + 7], ?_, fun w g hc => ⟨hc _ _, hc _ _, hc _ _, hc _ _, hc _ _, hc _ _, hc _ _, hc _ _⟩⟩
  rw [List.drop_eq_getElem_cons (by omega), List.drop_eq_getElem_cons (by omega), List.drop_eq_getElem_cons (by omega), List.drop_eq_getElem_cons (by omega),
    List.drop_eq_getElem_cons (by omega), List.drop_eq_getElem_cons (by omega), List.drop_eq_getElem_cons (by omega), List.drop_eq_getElem_cons (by omega)]
  rfl

end Go.Proofs.Qxb6616667aDoor
