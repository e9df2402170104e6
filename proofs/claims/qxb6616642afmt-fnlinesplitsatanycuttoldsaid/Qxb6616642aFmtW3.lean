import Derived.Test.Qxb6616642aFmtW2
namespace Go.Proofs.Qxb6616642aFmt
open Go.RowKit

theorem poke_end {N b r q : Nat} {d1 d2 : List UInt8} {w : World} (c : UInt8) (h : BW N b r q d1 d2 w) (hl : d2.length < 4096) :
    BW N b r q d1 (d2 ++ [c]) ((w.setCell ⟨r, d2.length, none⟩ (.int .u8 c.toNat)).setCell ⟨q, 2, none⟩ (.int .i64 (d2.length + 1))) ∧
    Fr N [b, r, q] w ((w.setCell ⟨r, d2.length, none⟩ (.int .u8 c.toNat)).setCell ⟨q, 2, none⟩ (.int .i64 (d2.length + 1))) := by
  obtain ⟨cur, hrow, hcsz, htk⟩ := h.row
  refine ⟨⟨h.hb, h.hr, h.hq, h.hbr, h.hbq, h.hrq, ?_, (h.buf.setCell h.hr h.hbr _).setCell h.hq h.hbq _, ⟨cur.setIfInBounds d2.length (.int .u8 c.toNat), ?_, by simpa using hcsz, ?_⟩, by simp; omega, ?_⟩, ((Fr.refl _ _ _).setCell (by simp) _).setCell (by simp) _⟩
  · have := h.hN
    simp [World.setCell]; omega
  · rw [Below.heap_setCell _ _ _ _ h.hrq, heap_setCell_same hrow]
  · have hlt : d2.length < cur.toList.length := by have : cur.toList.length = cur.size := Array.length_toList; omega
    rw [List.length_append, Array.toList_setIfInBounds]
    simp only [List.length_singleton]
    rw [List.take_add_one, List.take_set_of_le (Nat.le_refl _), List.getElem?_set_self hlt, htk]
    simp [Lib.byteCells]
  · rw [heap_setCell_same ((Below.heap_setCell _ _ _ _ (Ne.symm h.hrq)).trans h.st)]; simp

set_option maxHeartbeats 1600000 in
set_option maxRecDepth 100000 in
theorem writeByte_room {N b r q : Nat} {d1 d2 : List UInt8} (c : UInt8) (w : World) (h : BW N b r q d1 d2 w) (hl : d2.length < 4096) :
    Calls Tryf.prog 42 #[.pointer (some ⟨q, 0, none⟩), .int .u8 c.toNat] w fun e w' => e = .returned .nilIface ∧ BW N b r q d1 (d2 ++ [c]) w' ∧ Fr N [b, r, q] w w' := by
  have c0 := h.c0
  have c1 := h.c1
  have c2 := h.c2
  have f2 := h.f 2
  obtain ⟨cur, hrow, hcsz, htk⟩ := h.row
  obtain ⟨v0, hv0⟩ : ∃ v, w.cell? ⟨r, d2.length, none⟩ = some v := ⟨cur[d2.length], by rw [Lib.cell_of_heap hrow]; simp [hcsz, hl]⟩
  have fr := Lib.frozen_of_heap hrow d2.length
  have hrq := h.hrq
  have hqr := Ne.symm hrq
  have H := Hid.mk' h
  clear htk hrow h hcsz
  go_enter Tryf.func42, Tryf.ntmps42
  go_wp2_with (go_at_call 34; refine (available_any _ H.out).mono ?_; rintro e w' ⟨rfl, n0, rfl⟩)
  go_region
  all_goals (
    go_wp2
    go_ret
    obtain ⟨p1, p2⟩ := poke_end c (H.out.drewN (n0 + 1)) hl
    exact ⟨rfl, p1, ((Fr.refl _ _ _).drewN _).trans p2⟩)

set_option maxHeartbeats 1600000 in
set_option maxRecDepth 100000 in
theorem writeByte_full (HW : WriteOk) {N b r q : Nat} {d1 d2 : List UInt8} (c : UInt8) (w : World) (h : BW N b r q d1 d2 w) (hl : d2.length = 4096) (hlim : d1.length + d2.length ≤ 140737488355328) :
    Calls Tryf.prog 42 #[.pointer (some ⟨q, 0, none⟩), .int .u8 c.toNat] w fun e w' => e = .returned .nilIface ∧ BW N b r q (d1 ++ d2) [c] w' ∧ Fr N [b, r, q] w w' := by
  have c0 := h.c0
  have c1 := h.c1
  have c2 := h.c2
  have f2 := h.f 2
  have hlen : (4096 : Int) - (d2.length : Int) = 0 := by omega
  have H := Hid.mk' h
  have HL := Hid.mk' hl
  clear h hl
  go_enter Tryf.func42, Tryf.ntmps42
  go_wp2_with (first
    | (go_at_call 34; refine (available_any _ H.out).mono ?_; rintro e w' ⟨rfl, n0, rfl⟩)
    | (go_at_call 28; refine (flush_some HW _ (H.out.drewN n0) (by have := HL.out; omega) hlim).mono ?_; rintro e w1 ⟨rfl, hB1, hF1⟩; refine Hid.out ?_))
  refine Hid.mk' ?_
  have d0 := hB1.c0
  have d1' := hB1.c1
  have d2' := hB1.c2
  have e2 := hB1.f 2
  obtain ⟨cur, hrow, hcsz, htk⟩ := hB1.row
  obtain ⟨v0, hv0⟩ : ∃ v, w1.cell? ⟨r, 0, none⟩ = some v := ⟨cur[0], by rw [Lib.cell_of_heap hrow]; simp [hcsz]⟩
  have fr := Lib.frozen_of_heap hrow 0
  have hrq := hB1.hrq
  have hqr := Ne.symm hrq
  clear htk hrow hcsz
  go_wp2
  go_region
  all_goals (
    go_wp2
    go_ret
    obtain ⟨p1, p2⟩ := poke_end c (hB1.drewN 1) (by simp)
    exact ⟨rfl, p1, ((((Fr.refl _ _ _).drewN n0).trans (hF1.mono (by simp))).drewN 1).trans p2⟩)

/-- The writer has taken the bytes d in all. -/
def Wr (N b r q : Nat) (d : List UInt8) (w : World) : Prop := ∃ d1 d2, d1 ++ d2 = d ∧ BW N b r q d1 d2 w

theorem writeByte_any (HW : WriteOk) {N b r q : Nat} {d : List UInt8} (c : UInt8) (w : World) (h : Wr N b r q d w) (hlim : d.length ≤ 140737488355328) :
    Calls Tryf.prog 42 #[.pointer (some ⟨q, 0, none⟩), .int .u8 c.toNat] w fun e w' => e = .returned .nilIface ∧ Wr N b r q (d ++ [c]) w' ∧ Fr N [b, r, q] w w' := by
  obtain ⟨d1, d2, rfl, h⟩ := h
  have hn := h.hn
  by_cases hl : d2.length < 4096
  · refine (writeByte_room c w h hl).mono ?_
    rintro e w' ⟨rfl, hb, hf⟩
    exact ⟨rfl, ⟨d1, d2 ++ [c], by simp, hb⟩, hf⟩
  · refine (writeByte_full HW c w h (by omega) (by simpa using hlim)).mono ?_
    rintro e w' ⟨rfl, hb, hf⟩
    exact ⟨rfl, ⟨d1 ++ d2, [c], by simp, hb⟩, hf⟩

theorem flush_any (HW : WriteOk) {N b r q : Nat} {d : List UInt8} (w : World) (h : Wr N b r q d w) (hlim : d.length ≤ 140737488355328) :
    Calls Tryf.prog 28 #[.pointer (some ⟨q, 0, none⟩)] w fun e w' => e = .returned .nilIface ∧ BW N b r q d [] w' ∧ Fr N [b, r, q] w w' := by
  obtain ⟨d1, d2, rfl, h⟩ := h
  by_cases hl : d2 = []
  · subst hl
    refine (flush_none w h).mono ?_
    rintro e w' ⟨rfl, rfl⟩
    exact ⟨rfl, by simpa using h, Fr.refl _ _ _⟩
  · refine (flush_some HW w h (List.length_pos_iff.2 hl) (by simpa using hlim)).mono ?_
    rintro e w' ⟨rfl, hb, hf⟩
    exact ⟨rfl, hb, hf.mono (by simp)⟩
end Go.Proofs.Qxb6616642aFmt
