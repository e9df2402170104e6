import Derived.Test.Qxb6616642aFmtL2
namespace Go.Proofs.Qxb6616642aFmt
open Go.RowKit

theorem assert_bw (a : Addr) (w : World) : (Instr.typeAssert (.iface 25 (.pointer (some a))) 58 49 true).run Tryf.prog w = .ok (.tuple #[.pointer none, .bool false]) w := by kernel_rfl

theorem new_end (w : World) (M : Array Value) (hM : M.size = 4096) :
    BW (w.heap.size + 4) w.heap.size (w.heap.size + 1) (w.heap.size + 2) [] [] ((((w.alloc (.cells #[.slice none 0 0, .int .i64 0, .int .i8 0] 45)).alloc (.cells M 5)).alloc (.cells #[.nilIface, .slice (some ⟨w.heap.size + 1, 0, none⟩) 4096 4096, .int .i64 0, .iface 25 (.pointer (some ⟨w.heap.size, 0, none⟩))] 63)).alloc (.cells #[.pointer (some ⟨w.heap.size + 2, 0, none⟩)] 51)) ∧
    RW (w.heap.size + 3) (w.heap.size + 2) ((((w.alloc (.cells #[.slice none 0 0, .int .i64 0, .int .i8 0] 45)).alloc (.cells M 5)).alloc (.cells #[.nilIface, .slice (some ⟨w.heap.size + 1, 0, none⟩) 4096 4096, .int .i64 0, .iface 25 (.pointer (some ⟨w.heap.size, 0, none⟩))] 63)).alloc (.cells #[.pointer (some ⟨w.heap.size + 2, 0, none⟩)] 51)) ∧
    Below w.heap.size w ((((w.alloc (.cells #[.slice none 0 0, .int .i64 0, .int .i8 0] 45)).alloc (.cells M 5)).alloc (.cells #[.nilIface, .slice (some ⟨w.heap.size + 1, 0, none⟩) 4096 4096, .int .i64 0, .iface 25 (.pointer (some ⟨w.heap.size, 0, none⟩))] 63)).alloc (.cells #[.pointer (some ⟨w.heap.size + 2, 0, none⟩)] 51)) := by
  generalize ho1 : Obj.cells #[.slice none 0 0, .int .i64 0, .int .i8 0] 45 = o1
  generalize ho2 : Obj.cells M 5 = o2
  generalize ho3 : Obj.cells #[.nilIface, .slice (some ⟨w.heap.size + 1, 0, none⟩) 4096 4096, .int .i64 0, .iface 25 (.pointer (some ⟨w.heap.size, 0, none⟩))] 63 = o3
  generalize ho4 : Obj.cells #[.pointer (some ⟨w.heap.size + 2, 0, none⟩)] 51 = o4
  have s1 : (w.alloc o1).heap.size = w.heap.size + 1 := by simp
  have s2 : ((w.alloc o1).alloc o2).heap.size = w.heap.size + 2 := by simp
  have s3 : (((w.alloc o1).alloc o2).alloc o3).heap.size = w.heap.size + 3 := by simp
  have s4 : ((((w.alloc o1).alloc o2).alloc o3).alloc o4).heap.size = w.heap.size + 4 := by simp
  have g1 : ((((w.alloc o1).alloc o2).alloc o3).alloc o4).heap[w.heap.size]? = some o1 := by
    rw [Below.heap_alloc _ _ _ (by omega), Below.heap_alloc _ _ _ (by omega), Below.heap_alloc _ _ _ (by omega)]
    exact heap_alloc_new w o1
  have g2 : ((((w.alloc o1).alloc o2).alloc o3).alloc o4).heap[w.heap.size + 1]? = some o2 := by
    rw [Below.heap_alloc _ _ _ (by omega), Below.heap_alloc _ _ _ (by omega)]
    have := heap_alloc_new (w.alloc o1) o2
    rw [s1] at this; exact this
  have g3 : ((((w.alloc o1).alloc o2).alloc o3).alloc o4).heap[w.heap.size + 2]? = some o3 := by
    rw [Below.heap_alloc _ _ _ (by omega)]
    have := heap_alloc_new ((w.alloc o1).alloc o2) o3
    rw [s2] at this; exact this
  have g4 : ((((w.alloc o1).alloc o2).alloc o3).alloc o4).heap[w.heap.size + 3]? = some o4 := by
    have := heap_alloc_new (((w.alloc o1).alloc o2).alloc o3) o4
    rw [s3] at this; exact this
  have hb : Below w.heap.size w ((((w.alloc o1).alloc o2).alloc o3).alloc o4) := ((((Below.refl _ w).alloc (Nat.le_refl _) _).alloc (by omega) _).alloc (by omega) _).alloc (by omega) _
  subst ho1 ho2 ho3 ho4
  refine ⟨⟨by omega, by omega, by omega, by omega, by omega, by omega, by rw [s4]; exact Nat.le_refl _, ⟨0, Or.inl ⟨rfl, g1⟩⟩, ⟨M, g2, hM, by simp [Lib.byteCells]⟩, by simp, g3⟩, g4, hb⟩

set_option maxHeartbeats 1600000 in
set_option maxRecDepth 100000 in
theorem zznew_any (w : World) : Calls Tryf.prog 9 #[] w fun e w' => e = .returned (.tuple #[.pointer (some ⟨w.heap.size + 3, 0, none⟩), .pointer (some ⟨w.heap.size, 0, none⟩)]) ∧
    BW (w.heap.size + 4) w.heap.size (w.heap.size + 1) (w.heap.size + 2) [] [] w' ∧ RW (w.heap.size + 3) (w.heap.size + 2) w' ∧ Below w.heap.size w w' := by
  obtain ⟨i0, hi, hz0, hz1, hz2⟩ := info5'
  obtain ⟨M, hM⟩ : ∃ M, M = madeCells (Value.int .u8 0).cells ((4096 : Int).toNat * i0.size) := ⟨_, rfl⟩
  have hMs : M.size = 4096 := by rw [hM, size_madeCells, hz1]; rfl
  have hmk : ∀ W : World, (Instr.makeSlice 22 (.int .i64 4096) (.int .i64 4096)).run Tryf.prog W = .ok (.slice (some ⟨W.heap.size, 0, none⟩) 4096 4096) (W.alloc (.cells M 5)) := fun W => by
    have h := run_makeSlice (P := Tryf.prog) W 22 5 i0 (.int .u8 0) Tryf.underlying22 hi hz0 .i64 .i64 4096 4096 (by omega) (by omega) (by rw [hz1]; decide) (by rw [hz2]; decide) (by decide)
    rw [← hM] at h
    simpa using h
  have HM := Hid.mk' hMs
  have ab := assert_bw
  clear hM hMs hi hz0 hz1 hz2
  go_enter Tryf.func9, Tryf.ntmps9
  go_wp2
  go_ret2
  exact ⟨rfl, new_end w M HM.out⟩
end Go.Proofs.Qxb6616642aFmt
