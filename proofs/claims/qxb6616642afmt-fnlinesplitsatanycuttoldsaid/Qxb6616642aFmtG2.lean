import Derived.Test.Qxb6616642aFmtG1
namespace Go.Proofs.Qxb6616642aFmt
open Go.RowKit

theorem info5m : (Tryf.prog.info? 5).map (fun i => (i.zero, i.size, i.bytes)) = some (some (.int .u8 0), 1, 1) := by kernel_rfl
theorem info5' : ∃ i0, Tryf.prog.info? 5 = some i0 ∧ i0.zero = some (.int .u8 0) ∧ i0.size = 1 ∧ i0.bytes = 1 := by
  have h := info5m
  cases hq : Tryf.prog.info? 5 with
  | none => rw [hq] at h; cases h
  | some i =>
    rw [hq] at h
    simp only [Option.map_some, Option.some.injEq, Prod.mk.injEq] at h
    exact ⟨i, rfl, h.1, h.2.1, h.2.2⟩

theorem grow_small_end {N b n : Nat} {lr : Int} {w W : World} {v0 : Value} {M : Array Value} (hbN : b < N) (hN : N ≤ W.heap.size)
    (hbkW : W.heap[b]? = some (.cells #[v0, .int .i64 0, .int .i8 lr] 45 (0, 0))) (hMs : M.size = 64) (hn : n ≤ 64) (hF : Fr N [b] w W) :
    BufG N b [] n ((W.setCell ⟨b, 0, none⟩ (.slice (some ⟨W.heap.size, 0, none⟩) n 64)).alloc (.cells M 5)) ∧
      Fr N [b] w ((W.setCell ⟨b, 0, none⟩ (.slice (some ⟨W.heap.size, 0, none⟩) n 64)).alloc (.cells M 5)) := by
  have hsz : (W.setCell ⟨b, 0, none⟩ (.slice (some ⟨W.heap.size, 0, none⟩) n 64)).heap.size = W.heap.size := by simp [World.setCell]
  refine ⟨⟨lr, W.heap.size, 64, M, ?_, hN, ?_, by simpa using hn, by decide, hMs, by simp [Lib.byteCells]⟩, (hF.setCell (by simp) _).alloc (by rw [hsz]; exact hN) _⟩
  · rw [Below.heap_alloc _ _ b (by rw [hsz]; omega)]
    have h := heap_setCell_same (i := 0) hbkW (.slice (some ⟨W.heap.size, 0, none⟩) n 64)
    simpa using h
  · have h := heap_alloc_new (W.setCell ⟨b, 0, none⟩ (.slice (some ⟨W.heap.size, 0, none⟩) n 64)) (.cells M 5)
    rw [hsz] at h
    exact h

set_option maxHeartbeats 3200000 in
set_option maxRecDepth 100000 in
theorem grow_nil_small (N b n : Nat) (lr : Int) (w : World) (hbN : b < N) (hN : N ≤ w.heap.size)
    (hbk : w.heap[b]? = some (.cells #[.slice none 0 0, .int .i64 0, .int .i8 lr] 45 (0, 0))) (hn : 1 ≤ n) (h64 : n ≤ 64) :
    Calls Tryf.prog 79 #[.pointer (some ⟨b, 0, none⟩), .int .i64 n] w fun e w' => e = .returned (.int .i64 0) ∧ BufG N b [] n w' ∧ Fr N [b] w w' := by
  obtain ⟨i0, hi, hz0, hz1, hz2⟩ := info5'
  obtain ⟨M, hM⟩ : ∃ M, M = madeCells (Value.int .u8 0).cells ((64 : Int).toNat * i0.size) := ⟨_, rfl⟩
  have hMs : M.size = 64 := by rw [hM, size_madeCells, hz1]; rfl
  have hmk : ∀ W : World, (Instr.makeSlice 22 (.int .i64 (n : Int)) (.int .i64 64)).run Tryf.prog W = .ok (.slice (some ⟨W.heap.size, 0, none⟩) n 64) (W.alloc (.cells M 5)) := fun W => by
    have h := run_makeSlice (P := Tryf.prog) W 22 5 i0 (.int .u8 0) Tryf.underlying22 hi hz0 .i64 .i64 (n : Int) 64 (by omega) (by omega) (by rw [hz1]; decide) (by rw [hz2]; decide) (by decide)
    rw [← hM] at h
    simpa using h
  clear hM
  have hIs : Lib.IsBuffer 45 5 0 b [] w := ⟨Nat.zero_le _, _, _, hbk, World.ownsRow_nil _ _ _ _, by simp [Value.ownBlock]⟩
  have hnil : ∀ W, (binOp .eql 22 (.slice none 0 0) (.slice none 0 0)).run Tryf.prog W = .ok (.bool true) W := fun W => Lib.run_eql_slice_nil_nil W _ _ Tryf.underlying22
  have HL := Hid.mk' (Tryf.Buffer_Len 0 b [] w hIs)
  clear hIs hi hz0 hz1 hz2
  go_enter Tryf.func79, Tryf.ntmps79
  go_wp2_with (go_at_call 80; refine HL.out.mono ?_)
  rintro e W0 ⟨rfl, k, hW0⟩
  have hbk0 : W0.heap[b]? = some (.cells #[.slice none 0 0, .int .i64 0, .int .i8 lr] 45 (0, 0)) := by rw [hW0]; exact hbk
  have hF0 : Fr N [b] w W0 := by rw [hW0]; exact (Fr.refl _ _ _).drewN _
  have hN0 : N ≤ W0.heap.size := by rw [hW0]; exact hN
  have c0 : W0.cell? ⟨b, 0, none⟩ = some (.slice none 0 0) := by rw [Lib.cell_of_heap hbk0]; rfl
  have c1 : W0.cell? ⟨b, 1, none⟩ = some (.int .i64 0) := by rw [Lib.cell_of_heap hbk0]; rfl
  have f0 : W0.frozen? ⟨b, 0, none⟩ = false := Lib.frozen_of_heap hbk0 0
  have f1 : W0.frozen? ⟨b, 1, none⟩ = false := Lib.frozen_of_heap hbk0 1
  have hbW0 : b < W0.heap.size := by omega
  have c0a : ∀ o, (W0.alloc o).cell? ⟨b, 0, none⟩ = some (.slice none 0 0) := fun o => (World.cell?_of_block (a := ⟨b, 0, none⟩) (Below.heap_alloc W0 o b hbW0)).trans c0
  have f0a : ∀ o, (W0.alloc o).frozen? ⟨b, 0, none⟩ = false := fun o => (World.frozen?_of_block (a := ⟨b, 0, none⟩) (Below.heap_alloc W0 o b hbW0)).trans f0
  have HF0 := Hid.mk' hF0
  have Hb := Hid.mk' hbk0
  have HM := Hid.mk' hMs
  clear hW0 hF0 hbk0 hbk hMs
  go_wp2_with (go_at_call 78; refine (Tryf.Buffer_tryGrow_none b _ 0 0 n _ c0 (Nat.le_refl _) (Nat.zero_le _) (by omega)).mono ?_; rintro e w' ⟨rfl, rfl⟩)
  go_ret
  exact ⟨rfl, grow_small_end hbN hN0 Hb.out HM.out h64 HF0.out⟩

set_option maxHeartbeats 3200000 in
set_option maxRecDepth 100000 in
theorem grow_nil_big (N b n : Nat) (lr : Int) (w : World) (hbN : b < N) (hN : N ≤ w.heap.size)
    (hbk : w.heap[b]? = some (.cells #[.slice none 0 0, .int .i64 0, .int .i8 lr] 45 (0, 0))) (h64 : 64 < n) (hlim : n ≤ 140737488355328) :
    Calls Tryf.prog 79 #[.pointer (some ⟨b, 0, none⟩), .int .i64 n] w fun e w' => e = .returned (.int .i64 0) ∧ BufG N b [] n w' ∧ Fr N [b] w w' := by
  have hn : 1 ≤ n := by omega
  have hIs : Lib.IsBuffer 45 5 0 b [] w := ⟨Nat.zero_le _, _, _, hbk, World.ownsRow_nil _ _ _ _, by simp [Value.ownBlock]⟩
  have hnil : ∀ W, (binOp .eql 22 (.slice none 0 0) (.slice none 0 0)).run Tryf.prog W = .ok (.bool true) W := fun W => Lib.run_eql_slice_nil_nil W _ _ Tryf.underlying22
  have HL := Hid.mk' (Tryf.Buffer_Len 0 b [] w hIs)
  clear hIs
  go_enter Tryf.func79, Tryf.ntmps79
  go_wp2_with (go_at_call 80; refine HL.out.mono ?_)
  rintro e W0 ⟨rfl, k, hW0⟩
  have hbk0 : W0.heap[b]? = some (.cells #[.slice none 0 0, .int .i64 0, .int .i8 lr] 45 (0, 0)) := by rw [hW0]; exact hbk
  have hF0 : Fr N [b] w W0 := by rw [hW0]; exact (Fr.refl _ _ _).drewN _
  have hN0 : N ≤ W0.heap.size := by rw [hW0]; exact hN
  have c0 : W0.cell? ⟨b, 0, none⟩ = some (.slice none 0 0) := by rw [Lib.cell_of_heap hbk0]; rfl
  have c1 : W0.cell? ⟨b, 1, none⟩ = some (.int .i64 0) := by rw [Lib.cell_of_heap hbk0]; rfl
  have f0 : W0.frozen? ⟨b, 0, none⟩ = false := Lib.frozen_of_heap hbk0 0
  have f1 : W0.frozen? ⟨b, 1, none⟩ = false := Lib.frozen_of_heap hbk0 1
  have HF0 := Hid.mk' hF0
  have Hb := Hid.mk' hbk0
  clear hW0 hF0 hbk0 hbk
  go_wp2_with (go_at_call 78; refine (Tryf.Buffer_tryGrow_none b _ 0 0 n _ c0 (Nat.le_refl _) (Nat.zero_le _) (by omega)).mono ?_; rintro e w' ⟨rfl, rfl⟩)
  have hwn : IntKind.i64.wrap (n : Int) = n := by rw [IntKind.wrap_i64]; omega
  go_region_with (
      go_at_call 81
      refine (Tryf.bytes_growSlice_nil n _ hn hlim).mono ?_
      rintro e w2 ⟨cap2, cells, rfl, hM, hcsz, hcap2, hcm2, hbel⟩
      have hbk2 : w2.heap[b]? = some (.cells #[.slice none 0 0, .int .i64 0, .int .i8 lr] 45 (0, 0)) := (hbel.block b (Nat.lt_of_lt_of_le hbN hN0)).trans Hb.out
      have d0 : w2.cell? ⟨b, 0, none⟩ = some (.slice none 0 0) := by rw [Lib.cell_of_heap hbk2]; rfl
      have d1 : w2.cell? ⟨b, 1, none⟩ = some (.int .i64 0) := by rw [Lib.cell_of_heap hbk2]; rfl
      have e0 : w2.frozen? ⟨b, 0, none⟩ = false := Lib.frozen_of_heap hbk2 0
      have e1 : w2.frozen? ⟨b, 1, none⟩ = false := Lib.frozen_of_heap hbk2 1)
  all_goals (
    go_wp2
    go_ret
    have hE := grow_end (l := 0) (n := n) (d := []) (v1 := .slice (some ⟨w'.heap.size, 0, none⟩) 0 cap2) hN0 hbN hbk2 hM rfl hcsz (by simp [Lib.byteCells]) (by omega) hcm2 (HF0.out.drew.below hN0 hbel)
    simp only [Nat.zero_add] at hE
    exact ⟨rfl, hE⟩)
end Go.Proofs.Qxb6616642aFmt
