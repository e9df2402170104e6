import Derived.Test.Qxb6616642aFmtW2
import Derived.Test.Qxb6616642aFmtShelf
import Derived.Lib.BufferMore
import Derived.Lib.BufferWrite
import Derived.Deep.RegionWith
import Derived.BigCall
import Derived.BigGuard
namespace Go.Proofs.Qxb6616642aFmt
open Go.RowKit

/-- The buffer holds d, and n more cells of whatever. -/
def BufG (N b : Nat) (d : List UInt8) (n : Nat) (w : World) : Prop :=
  ∃ lr g cap cur, w.heap[b]? = some (.cells #[.slice (some ⟨g, 0, none⟩) (d.length + n) cap, .int .i64 0, .int .i8 lr] 45 (0, 0)) ∧ N ≤ g ∧
    w.heap[g]? = some (.cells cur 5 (0, 0)) ∧ d.length + n ≤ cap ∧ cap ≤ maxLen ∧ cur.size = cap ∧ cur.toList.take d.length = Lib.byteCells d

theorem grow_end {N b l n cap2 M : Nat} {lr : Int} {d : List UInt8} {w w2 : World} {v0 v1 : Value} {cells : Array Value} (hM : N ≤ M) (hbN : b < N)
    (hbk2 : w2.heap[b]? = some (.cells #[v0, .int .i64 0, .int .i8 lr] 45 (0, 0))) (hc : w2.heap[M]? = some (.cells cells 5 (0, 0))) (hl : d.length = l)
    (hcsz : cells.size = cap2) (htk : cells.toList.take l = Lib.byteCells d) (hcap2 : l + n ≤ cap2) (hcm2 : cap2 ≤ maxLen) (hF : Fr N [b] w w2) :
    BufG N b d n (((w2.setCell ⟨b, 0, none⟩ v1).setCell ⟨b, 1, none⟩ (.int .i64 0)).setCell ⟨b, 0, none⟩ (.slice (some ⟨M, 0, none⟩) (l + n) cap2)) ∧
      Fr N [b] w (((w2.setCell ⟨b, 0, none⟩ v1).setCell ⟨b, 1, none⟩ (.int .i64 0)).setCell ⟨b, 0, none⟩ (.slice (some ⟨M, 0, none⟩) (l + n) cap2)) := by
  subst hl
  have hMb : M ≠ b := by omega
  refine ⟨⟨lr, M, cap2, cells, ?_, hM, ?_, hcap2, hcm2, hcsz, htk⟩, ((hF.setCell (by simp) _).setCell (by simp) _).setCell (by simp) _⟩
  · exact heap_setCell_same (i := 0) (heap_setCell_same (i := 1) (heap_setCell_same (i := 0) hbk2 v1) (.int .i64 0)) _
  · rw [Below.heap_setCell _ _ _ _ hMb, Below.heap_setCell _ _ _ _ hMb, Below.heap_setCell _ _ _ _ hMb]
    exact hc

set_option maxHeartbeats 3200000 in
set_option maxRecDepth 100000 in
theorem grow_row (N b g cap n : Nat) (lr : Int) (cur : Array Value) (d : List UInt8) (w : World) (hbN : b < N) (hN : N ≤ w.heap.size)
    (hbk : w.heap[b]? = some (.cells #[.slice (some ⟨g, 0, none⟩) d.length cap, .int .i64 0, .int .i8 lr] 45 (0, 0))) (hNg : N ≤ g)
    (hg : w.heap[g]? = some (.cells cur 5 (0, 0))) (h1 : 1 ≤ d.length) (hlc : d.length ≤ cap) (hcm : cap ≤ maxLen) (hcs : cur.size = cap)
    (htk : cur.toList.take d.length = Lib.byteCells d) (hn : 1 ≤ n) (hroom : cap - d.length < n) (hlim : d.length + n ≤ 140737488355328) :
    Calls Tryf.prog 79 #[.pointer (some ⟨b, 0, none⟩), .int .i64 n] w fun e w' => e = .returned (.int .i64 d.length) ∧ BufG N b d n w' ∧ Fr N [b] w w' := by
  obtain ⟨l, hl⟩ : ∃ l, d.length = l := ⟨_, rfl⟩
  rw [hl] at hbk h1 hlc htk hroom hlim ⊢
  have hgb : g ≠ b := by omega
  have hIs : Lib.IsBuffer 45 5 0 b (cur.toList.take l) w := Lib.isBuffer_mk (Nat.zero_le _) hbk (Nat.zero_le _) hg hlc hcm hcs hgb
  have hll : (cur.toList.take l).length = l := by rw [htk, Lib.byteCells_length, hl]
  have hnil : ∀ W, (binOp .eql 22 (.slice (some ⟨g, 0, none⟩) l cap) (.slice none 0 0)).run Tryf.prog W = .ok (.bool false) W := fun W => Lib.run_eql_slice_some_nil W _ _ _ Tryf.underlying22
  have hLen := Tryf.Buffer_Len 0 b (cur.toList.take l) w hIs
  rw [hll] at hLen
  have HL := Hid.mk' hLen
  clear hLen hIs hll
  go_enter Tryf.func79, Tryf.ntmps79
  go_wp2_with (go_at_call 80; refine HL.out.mono ?_)
  rintro e W0 ⟨rfl, k, hW0⟩
  have hbk0 : W0.heap[b]? = some (.cells #[.slice (some ⟨g, 0, none⟩) l cap, .int .i64 0, .int .i8 lr] 45 (0, 0)) := by rw [hW0]; exact hbk
  have hg0 : W0.heap[g]? = some (.cells cur 5 (0, 0)) := by rw [hW0]; exact hg
  have hF0 : Fr N [b] w W0 := by rw [hW0]; exact (Fr.refl _ _ _).drewN _
  have hN0 : N ≤ W0.heap.size := by rw [hW0]; exact hN
  have c0 : W0.cell? ⟨b, 0, none⟩ = some (.slice (some ⟨g, 0, none⟩) l cap) := by rw [Lib.cell_of_heap hbk0]; rfl
  have c1 : W0.cell? ⟨b, 1, none⟩ = some (.int .i64 0) := by rw [Lib.cell_of_heap hbk0]; rfl
  have f0 : W0.frozen? ⟨b, 0, none⟩ = false := Lib.frozen_of_heap hbk0 0
  have f1 : W0.frozen? ⟨b, 1, none⟩ = false := Lib.frozen_of_heap hbk0 1
  have HF0 := Hid.mk' hF0
  have Hl := Hid.mk' hl
  have HT := Hid.mk' htk
  have Hc := Hid.mk' hcs
  have Hg := Hid.mk' hg0
  have Hb := Hid.mk' hbk0
  have hcm' := hcm
  unfold maxLen at hcm'
  have hz : ¬ ((l : Int) = 0) := by omega
  have hz2 : ¬ l = 0 := by omega
  clear hW0 hF0 hl htk hcs hg0 hbk0 hbk hg
  go_wp2_with (go_at_call 78; refine (Tryf.Buffer_tryGrow_none b _ l cap n _ c0 hlc hcm hroom).mono ?_; rintro e w' ⟨rfl, rfl⟩)
  have hc2 : cap ≤ 140737488355328 := by omega
  have H1 := Hid.mk' (show ∀ v ∈ cur.toList.take l, v.oneCell' = true by rw [HT.out]; exact Lib.byteCells_one d)
  have hwn : IntKind.i64.wrap (n : Int) = n := by rw [IntKind.wrap_i64]; omega
  go_region_with (
      go_at_call 81
      refine (Tryf.bytes_growSlice_row g l cap n cur _ ?_ Hc.out hlc hn hlim hc2 H1.out).mono ?_
      exact Hg.out
      rintro e w2 ⟨cap2, cells, rfl, hM, hcsz, htk2, hcap2, hcm2, hbel⟩
      have hbk2 : w2.heap[b]? = some (.cells #[.slice (some ⟨g, 0, none⟩) l cap, .int .i64 0, .int .i8 lr] 45 (0, 0)) := (hbel.block b (Nat.lt_of_lt_of_le hbN hN0)).trans Hb.out
      have d0 : w2.cell? ⟨b, 0, none⟩ = some (.slice (some ⟨g, 0, none⟩) l cap) := by rw [Lib.cell_of_heap hbk2]; rfl
      have d1 : w2.cell? ⟨b, 1, none⟩ = some (.int .i64 0) := by rw [Lib.cell_of_heap hbk2]; rfl
      have e0 : w2.frozen? ⟨b, 0, none⟩ = false := Lib.frozen_of_heap hbk2 0
      have e1 : w2.frozen? ⟨b, 1, none⟩ = false := Lib.frozen_of_heap hbk2 1)
  all_goals (
    go_wp2
    go_ret
    refine ⟨rfl, ?_⟩
    exact grow_end hN0 hbN hbk2 hM Hl.out hcsz (htk2.trans HT.out) hcap2 hcm2 (HF0.out.drew.below hN0 hbel))
end Go.Proofs.Qxb6616642aFmt
