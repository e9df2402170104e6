import Derived.Test.Qxb6616642aFmtW1
import Derived.Deep.RegionWith
import Derived.Deep.DeepMust
import Derived.Deep.DeepFit
import Derived.Outline
namespace Go.Proofs.Qxb6616642aFmt
open Go.RowKit

def WriteOk : Prop := ∀ (N b : Nat) (d cs : List UInt8) (a : Addr) (c : Nat) (w : World), Buf N b d w → b < N → N ≤ w.heap.size → a.block < N → a.block ≠ b → 1 ≤ cs.length →
  (∀ j v, (Lib.byteCells cs)[j]? = some v → w.cell? (a.add j) = some v) → d.length + cs.length ≤ 140737488355328 →
  Calls Tryf.prog 76 #[.pointer (some ⟨b, 0, none⟩), .slice (some a) cs.length c] w fun e w' => e = .returned (.tuple #[.int .i64 cs.length, .nilIface]) ∧ Buf N b (d ++ cs) w' ∧ Fr N [b] w w'

set_option maxHeartbeats 400000 in
theorem flush_none {N b r q : Nat} {d1 : List UInt8} (w : World) (h : BW N b r q d1 [] w) :
    Calls Tryf.prog 28 #[.pointer (some ⟨q, 0, none⟩)] w fun e w' => e = .returned .nilIface ∧ w' = w := by
  have c0 := h.c0
  have c2 := h.c2
  clear h
  go_enter Tryf.func28, Tryf.ntmps28
  go_wp2
  go_ret
  exact ⟨rfl, rfl⟩

theorem Hid.mk' {p : Prop} (h : p) : Hid p := h

theorem heap_setCell_same {w : World} {b i : Nat} {cs : Array Value} {T : TypeId} {fr : Nat × Nat} (hb : w.heap[b]? = some (.cells cs T fr)) (v : Value) :
    (w.setCell ⟨b, i, none⟩ v).heap[b]? = some (.cells (cs.setIfInBounds i v) T fr) := by
  simp [World.setCell, Array.getElem?_modify, hb]

theorem Buf.setCell {N b : Nat} {d : List UInt8} {w : World} (h : Buf N b d w) {p i : Nat} (hp : p < N) (hpb : b ≠ p) (v : Value) : Buf N b d (w.setCell ⟨p, i, none⟩ v) :=
  h.carry (Below.heap_setCell _ _ _ _ hpb) (fun k hk _ => Below.heap_setCell _ _ _ _ (by show k ≠ p; omega))

theorem flush_end {N b r q : Nat} {d1 d2 : List UInt8} {w w2 : World} (h : BW N b r q d1 d2 w) (hB : Buf N b (d1 ++ d2) w2) (hF : Fr N [b] w.drew w2) :
    BW N b r q (d1 ++ d2) [] (w2.setCell ⟨q, 2, none⟩ (.int .i64 0)) ∧ Fr N [b, q] w (w2.setCell ⟨q, 2, none⟩ (.int .i64 0)) := by
  have hF0 : Fr N [b] w w2 := ⟨hF.os, hF.tape, hF.output, hF.size, hF.block⟩
  have hq2 := (hF0.block q h.hq (by simpa using Ne.symm h.hbq)).trans h.st
  obtain ⟨cur, hrow, hcsz, _⟩ := h.row
  have hr2 := (hF0.block r h.hr (by simpa using Ne.symm h.hbr)).trans hrow
  refine ⟨⟨h.hb, h.hr, h.hq, h.hbr, h.hbq, h.hrq, ?_, hB.setCell h.hq h.hbq _, ⟨cur, ?_, hcsz, by simp [Lib.byteCells]⟩, by simp, ?_⟩, (hF0.mono (by simp)).setCell (by simp) _⟩
  · have := hF0.size
    have := h.hN
    simp [World.setCell]; omega
  · rw [Below.heap_setCell _ _ _ _ h.hrq]; exact hr2
  · rw [heap_setCell_same hq2]; rfl

theorem nil_ahead (a : Addr) (w : World) : (nilAhead 221 25 (.pointer (some a)) "Write").run Tryf.prog w = .ok (some false) w := by kernel_rfl
theorem method_write (a : Addr) (w : World) : (method 221 25 (.pointer (some a)) "Write").run Tryf.prog w = .ok (76, .pointer (some a)) w := by kernel_rfl

set_option maxHeartbeats 1600000 in
set_option maxRecDepth 100000 in
theorem flush_some (HW : WriteOk) {N b r q : Nat} {d1 d2 : List UInt8} (w : World) (h : BW N b r q d1 d2 w) (h1 : 1 ≤ d2.length) (hlim : d1.length + d2.length ≤ 140737488355328) :
    Calls Tryf.prog 28 #[.pointer (some ⟨q, 0, none⟩)] w fun e w' => e = .returned .nilIface ∧ BW N b r q (d1 ++ d2) [] w' ∧ Fr N [b, q] w w' := by
  have c0 := h.c0
  have c1 := h.c1
  have c2 := h.c2
  have c3 := h.c3
  have f2 := h.f 2
  have hn := h.hn
  have hz : ¬ ((d2.length : Int) = 0) := by omega
  have na := nil_ahead
  have mw := method_write
  obtain ⟨cur, hrow, hcsz, htk⟩ := h.row
  have hsrc : ∀ j v, (Lib.byteCells d2)[j]? = some v → w.cell? ((⟨r, 0, none⟩ : Addr).add j) = some v := by
    rw [← htk]
    intro j v hj
    have ha : (⟨r, 0, none⟩ : Addr).add j = ⟨r, j, none⟩ := by unfold Addr.add; split <;> simp_all
    rw [ha, Lib.cell_of_heap hrow]
    rw [List.getElem?_take] at hj
    split at hj
    · simpa using hj
    · cases hj
  have H := Hid.mk' h
  have HS := Hid.mk' hsrc
  have HC := Hid.mk' htk
  clear hsrc htk hrow h hcsz
  go_enter Tryf.func28, Tryf.ntmps28
  go_wp2
  go_region_with (
    go_at_call 76
    refine (HW N b d1 d2 ⟨r, 0, none⟩ 4096 _ ?_ H.out.hb ?_ H.out.hr (Ne.symm H.out.hbr) h1 ?_ hlim).mono ?_
    · exact H.out.buf
    · exact H.out.hN
    · exact HS.out
    rintro e w2 ⟨rfl, hB2, hF2⟩
    have hq2 := (hF2.block q H.out.hq (by simpa using Ne.symm H.out.hbq)).trans H.out.st
    have d0 : w2.cell? ⟨q, 0, none⟩ = some .nilIface := by rw [Lib.cell_of_heap hq2]; rfl
    have dd2 : w2.cell? ⟨q, 2, none⟩ = some (.int .i64 d2.length) := by rw [Lib.cell_of_heap hq2]; rfl
    have e2 : w2.frozen? ⟨q, 2, none⟩ = false := Lib.frozen_of_heap hq2 2)
  all_goals (
    go_wp2
    go_ret
    exact ⟨rfl, flush_end H.out hB2 hF2⟩)
end Go.Proofs.Qxb6616642aFmt
