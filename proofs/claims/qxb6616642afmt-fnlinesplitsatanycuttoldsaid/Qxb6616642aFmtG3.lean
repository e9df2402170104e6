import Derived.Test.Qxb6616642aFmtG2
import Derived.Test.Qxb6616642aFmtW4
namespace Go.Proofs.Qxb6616642aFmt
open Go.RowKit

theorem tryGrow_any (N b n : Nat) (d : List UInt8) (w : World) (hbN : b < N) (hn : 1 ≤ n) (h : Buf N b d w) :
    Calls Tryf.prog 78 #[.pointer (some ⟨b, 0, none⟩), .int .i64 n] w fun e w' =>
      (e = .returned (.tuple #[.int .i64 d.length, .bool true]) ∧ BufG N b d n w' ∧ Fr N [b] w w') ∨
      (e = .returned (.tuple #[.int .i64 0, .bool false]) ∧ w' = w ∧ Lib.NoRoom b n w) := by
  obtain ⟨lr, ⟨rfl, hbk⟩ | ⟨g, cap, cur, hbk, hNg, hg, h1, hlc, hcm, hcs, htk⟩⟩ := h
  · have c0 : w.cell? ⟨b, 0, none⟩ = some (.slice none 0 0) := by rw [Lib.cell_of_heap hbk]; rfl
    refine (Tryf.Buffer_tryGrow_none b none 0 0 n w c0 (Nat.le_refl _) (Nat.zero_le _) (by omega)).mono ?_
    rintro e w' ⟨rfl, rfl⟩
    exact Or.inr ⟨rfl, rfl, none, 0, 0, c0, by omega⟩
  · have c0 : w.cell? ⟨b, 0, none⟩ = some (.slice (some ⟨g, 0, none⟩) d.length cap) := by rw [Lib.cell_of_heap hbk]; rfl
    have f0 := Lib.frozen_of_heap hbk 0
    by_cases hr : n ≤ cap - d.length
    · refine (Tryf.Buffer_tryGrow_room b _ d.length cap n w c0 f0 hlc hcm hr).mono ?_
      rintro e w' ⟨rfl, rfl⟩
      refine Or.inl ⟨rfl, ⟨lr, g, cap, cur, heap_setCell_same (i := 0) hbk _, hNg, ?_, by omega, hcm, hcs, htk⟩, (Fr.refl _ _ _).setCell (by simp) _⟩
      rw [Below.heap_setCell _ _ _ _ (show g ≠ b by omega)]; exact hg
    · refine (Tryf.Buffer_tryGrow_none b _ d.length cap n w c0 hlc hcm (by omega)).mono ?_
      rintro e w' ⟨rfl, rfl⟩
      exact Or.inr ⟨rfl, rfl, _, _, _, c0, by omega⟩

theorem grow_any (N b n : Nat) (d : List UInt8) (w : World) (hbN : b < N) (hN : N ≤ w.heap.size) (hn : 1 ≤ n) (h : Buf N b d w) (hnr : Lib.NoRoom b n w) (hlim : d.length + n ≤ 140737488355328) :
    Calls Tryf.prog 79 #[.pointer (some ⟨b, 0, none⟩), .int .i64 n] w fun e w' => e = .returned (.int .i64 d.length) ∧ BufG N b d n w' ∧ Fr N [b] w w' := by
  obtain ⟨ao, l, cap0, hc, hlt⟩ := hnr
  obtain ⟨lr, ⟨rfl, hbk⟩ | ⟨g, cap, cur, hbk, hNg, hg, h1, hlc, hcm, hcs, htk⟩⟩ := h
  · by_cases h64 : n ≤ 64
    · exact grow_nil_small N b n lr w hbN hN hbk hn h64
    · exact grow_nil_big N b n lr w hbN hN hbk (by omega) (by simpa using hlim)
  · have c0 : w.cell? ⟨b, 0, none⟩ = some (.slice (some ⟨g, 0, none⟩) d.length cap) := by rw [Lib.cell_of_heap hbk]; rfl
    rw [c0] at hc
    cases hc
    exact grow_row N b g _ n lr cur d w hbN hN hbk hNg hg h1 hlc hcm hcs htk hn hlt hlim

theorem Buf.setLast {N b : Nat} {d : List UInt8} {w : World} (hbN : b < N) (h : Buf N b d w) (x : Int) : Buf N b d (w.setCell ⟨b, 2, none⟩ (.int .i8 x)) := by
  obtain ⟨lr, ⟨rfl, hbk⟩ | ⟨g, cap, cur, hbk, hNg, hg, r⟩⟩ := h
  · exact ⟨x, Or.inl ⟨rfl, heap_setCell_same (i := 2) hbk _⟩⟩
  · refine ⟨x, Or.inr ⟨g, cap, cur, heap_setCell_same (i := 2) hbk _, hNg, ?_, r⟩⟩
    rw [Below.heap_setCell _ _ _ _ (show g ≠ b by omega)]; exact hg

theorem Buf.parts {N b : Nat} {d : List UInt8} {w : World} (h : Buf N b d w) : ∃ v lr, w.heap[b]? = some (.cells #[v, .int .i64 0, .int .i8 lr] 45 (0, 0)) := by
  obtain ⟨lr, ⟨rfl, hbk⟩ | ⟨g, cap, cur, hbk, hNg, hg, r⟩⟩ := h
  · exact ⟨_, _, hbk⟩
  · exact ⟨_, _, hbk⟩

theorem written_end {N b g cap n : Nat} {lr : Int} {cur : Array Value} {d x : List UInt8} {w W : World} (hbN : b < N) (hn : 1 ≤ n) (hx : x.length = n)
    (hbk : W.heap[b]? = some (.cells #[.slice (some ⟨g, 0, none⟩) (d.length + n) cap, .int .i64 0, .int .i8 lr] 45 (0, 0))) (hNg : N ≤ g)
    (hg : W.heap[g]? = some (.cells cur 5 (0, 0))) (hnc : d.length + n ≤ cap) (hcm : cap ≤ maxLen) (hcs : cur.size = cap) (htk : cur.toList.take d.length = Lib.byteCells d) (hF : Fr N [b] w W) :
    Buf N b (d ++ x) (W.setRow g (cur.toList.take d.length ++ (Lib.byteCells x ++ cur.toList.drop (d.length + n))).toArray) ∧
    Fr N [b] w (W.setRow g (cur.toList.take d.length ++ (Lib.byteCells x ++ cur.toList.drop (d.length + n))).toArray) := by
  have hl : cur.toList.length = cap := by rw [Array.length_toList]; exact hcs
  have hxl : (Lib.byteCells x).length = n := by rw [Lib.byteCells_length]; exact hx
  refine ⟨⟨lr, Or.inr ⟨g, cap, _, ?_, hNg, setRow_heap W g cur _ 5 _ hg, ?_, ?_, hcm, ?_, ?_⟩⟩, hF.setRow (Or.inr hNg) _⟩
  · rw [setRow_other _ _ _ _ (show b ≠ g by omega), List.length_append, hx]; exact hbk
  · rw [List.length_append]; omega
  · rw [List.length_append]; omega
  · simp [hxl]; omega
  · rw [htk, List.toList_toArray, List.length_append, ← List.append_assoc]
    rw [List.take_append_of_le_length (by simp [Lib.byteCells_length])]
    rw [List.take_of_length_le (by simp [Lib.byteCells_length])]
    simp [Lib.byteCells]

set_option maxHeartbeats 3200000 in
set_option maxRecDepth 100000 in
theorem writeStr_ok : WriteStrOk := by
  intro N b d s w h hbN hN h1 hlim
  have h' := h.setLast hbN 0
  obtain ⟨v0, lr, hbk⟩ := h.parts
  have c2 : w.cell? ⟨b, 2, none⟩ = some (.int .i8 lr) := by rw [Lib.cell_of_heap hbk]; rfl
  have f2 : w.frozen? ⟨b, 2, none⟩ = false := Lib.frozen_of_heap hbk 2
  have hN' : N ≤ (w.setCell ⟨b, 2, none⟩ (.int .i8 0)).heap.size := by simpa [World.setCell] using hN
  have hF0 : Fr N [b] w (w.setCell ⟨b, 2, none⟩ (.int .i8 0)) := (Fr.refl _ _ _).setCell (by simp) _
  have hfin : ∀ W1, BufG N b d s.size W1 → Fr N [b] w W1 → ∃ g cap, W1.cell? ⟨b, 0, none⟩ = some (.slice (some ⟨g, 0, none⟩) (d.length + s.size) cap) ∧ d.length + s.size ≤ cap ∧ cap ≤ maxLen ∧
      ∃ W2, (Builtin.copy_ #[22, 9] 3 #[.slice (some ⟨g, d.length, none⟩) s.size (cap - d.length), .string s]).run Tryf.prog W1 = .ok (goInt s.size) W2 ∧ Buf N b (d ++ s.data.toList) W2 ∧ Fr N [b] w W2 := by
    rintro W1 ⟨lr2, g, cap, cur, k1, k2, k3, k4, k5, k6, k7⟩ hF
    refine ⟨g, cap, by rw [Lib.cell_of_heap k1]; rfl, k4, k5, _, run_copy_str W1 22 9 3 5 g d.length s.size (cap - d.length) s.size s cur 5 Tryf.underlying22 info5 k3 (Nat.min_self _).symm (by omega), ?_⟩
    rw [List.take_of_length_le (Nat.le_of_eq (show s.data.toList.length = s.size from rfl)), List.append_assoc]
    exact written_end hbN h1 rfl k1 k2 k3 k4 k5 k6 k7 hF
  have HB := Hid.mk' h'
  have HF := Hid.mk' hF0
  have Hfin := Hid.mk' hfin
  clear hbk h h' hF0 hfin
  go_enter Tryf.func77, Tryf.ntmps77
  go_wp2_with (go_at_call 78; refine (tryGrow_any N b s.size d _ hbN h1 HB.out).mono ?_)
  rintro e W1 (⟨rfl, hG, hF1⟩ | ⟨rfl, rfl, hnr⟩)
  · obtain ⟨g, cap, k0, k1, k2, W2, hcp, q1, q2⟩ := Hfin.out W1 hG (HF.out.trans hF1)
    have hne : ¬ cap = d.length := by omega
    unfold maxLen at k2
    clear hG hF1
    have Hq := Hid.mk' (And.intro q1 q2)
    clear q1 q2
    go_wp2
    go_ret2
    exact ⟨rfl, Hq.out⟩
  · go_wp2_with (go_at_call 79; refine (grow_any N b s.size d _ hbN hN' h1 HB.out hnr hlim).mono ?_)
    rintro e W1 ⟨rfl, hG, hF1⟩
    obtain ⟨g, cap, k0, k1, k2, W2, hcp, q1, q2⟩ := Hfin.out W1 hG (HF.out.trans hF1)
    have hne : ¬ cap = d.length := by omega
    unfold maxLen at k2
    clear hG hF1
    have Hq := Hid.mk' (And.intro q1 q2)
    clear q1 q2
    go_wp2
    go_ret2
    exact ⟨rfl, Hq.out⟩

set_option maxHeartbeats 3200000 in
set_option maxRecDepth 100000 in
theorem write_ok : WriteOk := by
  intro N b d cs a c w h hbN hN haN hab h1 hsrc hlim
  have h' := h.setLast hbN 0
  obtain ⟨v0, lr, hbk⟩ := h.parts
  have c2 : w.cell? ⟨b, 2, none⟩ = some (.int .i8 lr) := by rw [Lib.cell_of_heap hbk]; rfl
  have f2 : w.frozen? ⟨b, 2, none⟩ = false := Lib.frozen_of_heap hbk 2
  have hN' : N ≤ (w.setCell ⟨b, 2, none⟩ (.int .i8 0)).heap.size := by simpa [World.setCell] using hN
  have hF0 : Fr N [b] w (w.setCell ⟨b, 2, none⟩ (.int .i8 0)) := (Fr.refl _ _ _).setCell (by simp) _
  have hcl : (Lib.byteCells cs).length = cs.length := Lib.byteCells_length _
  have hfin : ∀ W1, BufG N b d cs.length W1 → Fr N [b] w W1 → ∃ g cap, W1.cell? ⟨b, 0, none⟩ = some (.slice (some ⟨g, 0, none⟩) (d.length + cs.length) cap) ∧ d.length + cs.length ≤ cap ∧ cap ≤ maxLen ∧
      ∃ W2, (Builtin.copy_ #[22, 22] 3 #[.slice (some ⟨g, d.length, none⟩) cs.length (cap - d.length), .slice (some a) cs.length c]).run Tryf.prog W1 = .ok (goInt cs.length) W2 ∧ Buf N b (d ++ cs) W2 ∧ Fr N [b] w W2 := by
    rintro W1 ⟨lr2, g, cap, cur, k1, k2, k3, k4, k5, k6, k7⟩ hF
    have hsrc1 : ∀ j v, (Lib.byteCells cs)[j]? = some v → W1.cell? (a.add j) = some v := fun j v hj => by
      have hbl : (a.add j).block = a.block := by unfold Addr.add; split <;> rfl
      rw [World.cell?_of_block (w := w) (hF.block _ (by rw [hbl]; exact haN) (by rw [hbl]; simpa using hab))]
      exact hsrc j v hj
    have hcp := run_copy_row (P := Tryf.prog) W1 22 22 3 5 g d.length cs.length (cap - d.length) a cs.length c cur 5 (Lib.byteCells cs) Tryf.underlying22 info5 k3 (by rw [hcl]; exact (Nat.min_self _).symm) hsrc1 (by rw [hcl]; omega) (byteCells_one cs)
    rw [hcl] at hcp
    refine ⟨g, cap, by rw [Lib.cell_of_heap k1]; rfl, k4, k5, _, hcp, ?_⟩
    rw [List.append_assoc]
    exact written_end hbN h1 rfl k1 k2 k3 k4 k5 k6 k7 hF
  have HB := Hid.mk' h'
  have HF := Hid.mk' hF0
  have Hfin := Hid.mk' hfin
  clear hbk h h' hF0 hfin hsrc
  go_enter Tryf.func76, Tryf.ntmps76
  go_wp2_with (go_at_call 78; refine (tryGrow_any N b cs.length d _ hbN h1 HB.out).mono ?_)
  rintro e W1 (⟨rfl, hG, hF1⟩ | ⟨rfl, rfl, hnr⟩)
  · obtain ⟨g, cap, k0, k1, k2, W2, hcp, q1, q2⟩ := Hfin.out W1 hG (HF.out.trans hF1)
    have hne : ¬ cap = d.length := by omega
    unfold maxLen at k2
    clear hG hF1
    have Hq := Hid.mk' (And.intro q1 q2)
    clear q1 q2
    go_wp2
    go_ret2
    exact ⟨rfl, Hq.out⟩
  · go_wp2_with (go_at_call 79; refine (grow_any N b cs.length d _ hbN hN' h1 HB.out hnr hlim).mono ?_)
    rintro e W1 ⟨rfl, hG, hF1⟩
    obtain ⟨g, cap, k0, k1, k2, W2, hcp, q1, q2⟩ := Hfin.out W1 hG (HF.out.trans hF1)
    have hne : ¬ cap = d.length := by omega
    unfold maxLen at k2
    clear hG hF1
    have Hq := Hid.mk' (And.intro q1 q2)
    clear q1 q2
    go_wp2
    go_ret2
    exact ⟨rfl, Hq.out⟩
end Go.Proofs.Qxb6616642aFmt
