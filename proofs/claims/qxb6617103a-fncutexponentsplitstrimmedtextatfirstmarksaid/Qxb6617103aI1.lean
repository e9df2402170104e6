import Derived.Test.Qxb6617103aR1
import Derived.Lib.IndexAny
namespace Go.Proofs.Qxb6617103a
open Go.RowKit

/-- The first e or E, or -1. -/
def idxE (l : List UInt8) : Int := Lib.indexAny l [101, 69]

theorem zero32 (w : World) : (zeroValue 32).run Try.prog w = .ok (.agg (Array.replicate 256 (.bool false))) w := by kernel_rfl

theorem marks_ascii : ∀ (j : Nat) b, (⟨#[101, 69]⟩ : ByteArray).data.toList[j]? = some b → b.toNat < 128 := by
  intro j b hj
  match j with
  | 0 => simp at hj; subst hj; decide
  | 1 => simp at hj; subst hj; decide
  | n + 2 => simp at hj

theorem indexAny_long (s : ByteArray) (w : World) (h8 : 8 < s.size) (hs : s.size < 4294967281) :
    Calls Try.prog 13 #[.string s, .string ⟨#[101, 69]⟩] w fun e w' => e = .returned (.int .i64 (idxE s.data.toList)) ∧ Below w.heap.size w w' := by
  refine (Try.strings_IndexAny_long zero32 s ⟨#[101, 69]⟩ w (by decide) h8 hs (by decide) marks_ascii).mono ?_
  rintro e w' ⟨rfl, rfl⟩
  exact ⟨rfl, ((Below.refl _ _).alloc (Nat.le_refl _) _).alloc (by simp) _⟩

theorem mark_hit (c : UInt8) (h : c = 101 ∨ c = 69) : 0 ≤ Lib.indexByte (⟨#[101, 69]⟩ : ByteArray).data.toList c := by
  rcases h with rfl | rfl <;> decide
theorem mark_miss (c : UInt8) (h1 : c ≠ 101) (h2 : c ≠ 69) : Lib.indexByte (⟨#[101, 69]⟩ : ByteArray).data.toList c = -1 := by
  have e1 : ((101 : UInt8) == c) = false := by simpa using fun e => h1 e.symm
  have e2 : ((69 : UInt8) == c) = false := by simpa using fun e => h2 e.symm
  show Lib.indexByte [101, 69] c = -1
  simp [Lib.indexByte, e1, e2]

/-- No e and no E among the first i bytes. -/
def NoE (l : List UInt8) (i : Nat) : Prop := ∀ j x, j < i → l[j]? = some x → x ≠ 101 ∧ x ≠ 69

theorem NoE.any {l : List UInt8} {i : Nat} (h : NoE l i) : Lib.NoAny l [101, 69] i := by
  intro j b hj hb
  have := h j b hj hb
  simp [this.1, this.2]

theorem NoE.succ {l : List UInt8} {i : Nat} (h : NoE l i) {x : UInt8} (hx : l[i]? = some x) (h1 : x ≠ 101) (h2 : x ≠ 69) : NoE l (i + 1) := by
  intro j y hj hy
  by_cases e : j = i
  · subst e; rw [hx] at hy; cases hy; exact ⟨h1, h2⟩
  · exact h j y (by omega) hy

theorem get_list (s : ByteArray) (j : Nat) (x : UInt8) (h : s.data.toList[j]? = some x) : s.get! j = x := by
  have hj : j < s.data.toList.length := (List.getElem?_eq_some_iff.1 h).1
  have hj' : j < s.size := hj
  have e := get_at s j hj'
  rw [Nat.add_zero] at e
  rw [e]
  have := (List.getElem?_eq_some_iff.1 h).2
  rw [← this]
  rfl

theorem list_get (s : ByteArray) (j : Nat) (h : j < s.size) : s.data.toList[j]? = some (s[j]'h) := by
  have hj : j < s.data.toList.length := h
  rw [List.getElem?_eq_getElem hj]
  rfl

theorem NoE.high {s : ByteArray} {pos : Nat} (h : NoE s.data.toList pos) (hp : pos < s.size) (ha : 128 ≤ (s[pos]'hp).toNat) : NoE s.data.toList (pos + (Utf8.decode s pos).2) ∧ pos + (Utf8.decode s pos).2 ≤ s.size := by
  have hb := decode_bytes s pos hp ha
  refine ⟨fun j x hj hx => ?_, ?_⟩
  · by_cases hlt : j < pos
    · exact h j x hlt hx
    · obtain ⟨k, rfl⟩ : ∃ k, j = pos + k := ⟨j - pos, by omega⟩
      have := (hb k (by omega)).2
      rw [get_list s _ x hx] at this
      exact ⟨fun e => by subst e; exact absurd this (by decide), fun e => by subst e; exact absurd this (by decide)⟩
  · have h1 := (decode_high s pos hp ha).2
    have := (hb ((Utf8.decode s pos).2 - 1) (by omega)).1
    omega

theorem idx_hit {s : ByteArray} {pos : Nat} (h : NoE s.data.toList pos) (hp : pos < s.size) (hc : (s[pos]'hp) = 101 ∨ (s[pos]'hp) = 69) : idxE s.data.toList = pos :=
  Lib.indexAny_hit h.any (list_get s pos hp) (by rcases hc with e | e <;> rw [e] <;> decide)

theorem idx_none {s : ByteArray} {pos : Nat} (h : NoE s.data.toList pos) (hp : ¬ pos < s.size) : idxE s.data.toList = -1 :=
  Lib.indexAny_none (fun j b hj hb => h.any j b (by have : s.data.toList.length = s.size := rfl; omega) hb)

theorem ret_int {k : IntKind} {a b : Int} (h : a = b) : Ending.returned (.int k a) = .returned (.int k b) := by rw [h]

set_option maxHeartbeats 1600000 in
set_option maxRecDepth 100000 in
theorem indexAny_short (s : ByteArray) (w : World) (h8 : s.size ≤ 8) :
    Calls Try.prog 13 #[.string s, .string ⟨#[101, 69]⟩] w fun e w' => e = .returned (.int .i64 (idxE s.data.toList)) ∧ Below w.heap.size w w' := by
  have hk0 := World.iter_heap w s 0
  have hb0 : Below w.heap.size w (w.iter s 0) := (Below.refl _ w).alloc (Nat.le_refl _) _
  go_enter Try.func13, Try.ntmps13
  go_wp2_with (go_at_call 15; go_in)
  go_loopw [9, 10] (fun _ _ wr => ∃ pos : Nat, pos ≤ s.size ∧ wr.heap[w.heap.size]? = some (.stringIter s pos) ∧ NoE s.data.toList pos ∧ Below w.heap.size w wr) (fun _ _ wr => s.size - wr.iterPos w.heap.size)
  case atStart => exact ⟨0, Nat.zero_le _, hk0, (fun j x hj _ => absurd hj (Nat.not_lt_zero _)), hb0⟩
  case round =>
    obtain ⟨pos, hp, hk, hN, hb⟩ := hrel
    clear hk0 hb0
    have hlt : w.heap.size < wr.heap.size := (Array.getElem?_eq_some_iff.1 hk).1
    by_cases hps : pos < s.size
    · by_cases ha : (s[pos]'hps).toNat < 128
      · have hnext : ∀ ty, (Instr.next (.pointer (some ⟨w.heap.size, 0, none⟩)) true ty).run Try.prog wr = _ := fun ty => Lib.run_next_ascii_at wr w.heap.size s pos ty hk hps ha
        have hk1 := Lib.iterAt_heap wr w.heap.size s pos (pos + 1) hk
        have hb1 : Below w.heap.size w (wr.iterAt w.heap.size s (pos + 1)) := Lib.below_iterAt hb (Nat.le_refl _) s (pos + 1)
        have hmu : wr.iterPos w.heap.size = pos := by simp [World.iterPos, hk]
        have hmu1 : (wr.iterAt w.heap.size s (pos + 1)).iterPos w.heap.size = pos + 1 := by simp [World.iterPos, hk1]
        generalize wr.iterAt w.heap.size s (pos + 1) = W1 at hnext hk1 hb1 hmu1
        obtain ⟨c, hc⟩ : ∃ c : UInt8, c = s[pos]'hps := ⟨_, rfl⟩
        have hcv : ((s[pos]'hps).toNat : Int).toNat.toUInt8 = c := by rw [hc, Int.toNat_natCast]; simp
        have hir := Try.strings_IndexRune_ascii ⟨#[101, 69]⟩ ((s[pos]'hps).toNat : Int) W1 (by omega) (by omega)
        rw [hcv] at hir
        have HI := Hid.mk' hir
        have HK := Hid.mk' hk1
        have HC := Hid.mk' hc
        have HB := Hid.mk' hb1
        have HN := Hid.mk' hN
        have HM := Hid.mk' hmu
        have HM1 := Hid.mk' hmu1
        clear hir hcv hk1 hc hb1 hN hmu hmu1 hb
        by_cases hh : c = 101 ∨ c = 69
        · have h0 := mark_hit c hh
          have HH := Hid.mk' hh
          clear hh
          go_wp2_with (go_at_call 14; refine HI.out.mono ?_; rintro e w' ⟨rfl, rfl⟩)
          go_ret
          exact ⟨ret_int (idx_hit HN.out hps (by rw [← HC.out]; exact HH.out)).symm, HB.out⟩
        · have h0 := mark_miss c (fun e => hh (Or.inl e)) (fun e => hh (Or.inr e))
          have HH := Hid.mk' hh
          clear hh
          go_wp2_with (go_at_call 14; refine HI.out.mono ?_; rintro e w' ⟨rfl, rfl⟩)
          go_roundw
          case rel => exact ⟨pos + 1, by omega, HK.out, HN.out.succ (list_get s pos hps) (by rw [← HC.out]; exact fun e => HH.out (Or.inl e)) (by rw [← HC.out]; exact fun e => HH.out (Or.inr e)), HB.out⟩
          case measure => rw [HM.out, HM1.out]; omega
      · have ha' : 128 ≤ (s[pos]'hps).toNat := by omega
        have hnext : ∀ ty, (Instr.next (.pointer (some ⟨w.heap.size, 0, none⟩)) true ty).run Try.prog wr = _ := fun ty => Lib.run_next_any_at wr w.heap.size s pos ty hk hps
        obtain ⟨d1, d2⟩ := decode_high s pos hps ha'
        obtain ⟨hN1, hp1⟩ := NoE.high hN hps ha'
        have hmu : wr.iterPos w.heap.size = pos := by simp [World.iterPos, hk]
        generalize hR : (Utf8.decode s pos).1 = R at hnext d1
        generalize hL : (Utf8.decode s pos).2 = L at hnext d2 hN1 hp1
        have hk1 := Lib.iterAt_heap wr w.heap.size s pos (pos + L) hk
        have hb1 : Below w.heap.size w (wr.iterAt w.heap.size s (pos + L)) := Lib.below_iterAt hb (Nat.le_refl _) s (pos + L)
        have hz1 : w.heap.size < (wr.iterAt w.heap.size s (pos + L)).heap.size := (Array.getElem?_eq_some_iff.1 hk1).1
        generalize wr.iterAt w.heap.size s (pos + L) = W1 at hnext hk1 hb1 hz1
        have HK := Hid.mk' hk1
        have HB := Hid.mk' hb1
        have HN := Hid.mk' hN1
        have HM := Hid.mk' hmu
        clear hR hL hk1 hb1 hN1 hmu hN hb hk
        go_wp2_with (go_at_call 14; refine (indexRune_high (R : Int) (by omega) _).mono ?_; rintro e w2 ⟨rfl, hb2⟩)
        go_roundw
        case rel => exact ⟨pos + L, hp1, (hb2.block _ hz1).trans HK.out, HN.out, HB.out.trans (hb2.mono (Nat.le_of_lt hz1))⟩
        case measure =>
          have h2 : w2.heap[w.heap.size]? = some (.stringIter s (pos + L)) := (hb2.block _ hz1).trans HK.out
          rw [HM.out, show w2.iterPos w.heap.size = pos + L by simp [World.iterPos, h2]]
          omega
    · have hnext : ∀ ty, (Instr.next (.pointer (some ⟨w.heap.size, 0, none⟩)) true ty).run Try.prog wr = _ := fun ty => Lib.run_next_end_at wr w.heap.size s pos ty hk hps
      have HB := Hid.mk' hb
      have HN := Hid.mk' hN
      clear hb hN hk
      go_wp2
      go_ret
      exact ⟨ret_int (idx_none HN.out hps).symm, HB.out⟩

theorem indexAny_any (s : ByteArray) (w : World) (hs : s.size < 4294967281) :
    Calls Try.prog 13 #[.string s, .string ⟨#[101, 69]⟩] w fun e w' => e = .returned (.int .i64 (idxE s.data.toList)) ∧ Below w.heap.size w w' := by
  by_cases h8 : s.size ≤ 8
  · exact indexAny_short s w h8
  · exact indexAny_long s w (by omega) hs
end Go.Proofs.Qxb6617103a
