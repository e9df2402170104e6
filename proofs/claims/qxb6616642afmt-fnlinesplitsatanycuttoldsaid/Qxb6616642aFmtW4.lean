import Derived.Test.Qxb6616642aFmtW3
namespace Go.Proofs.Qxb6616642aFmt
open Go.RowKit

theorem info5 : (Tryf.prog.info? 5).map (·.size) = some 1 := by kernel_rfl

theorem byteCells_one (l : List UInt8) : ∀ v ∈ Lib.byteCells l, v.oneCell' = true := by
  intro v hv
  simp only [Lib.byteCells, List.mem_map] at hv
  obtain ⟨b, _, rfl⟩ := hv
  rfl

/-- 'copy(dst, s)' from a string, into a row of bytes from place o on: as many bytes as fit. -/
theorem run_copy_str {P : Program} (w : World) (dT sT ty elem : TypeId) (g o dLen dCap m : Nat) (s : ByteArray) (cur : Array Value) (t : TypeId)
    (hu : P.underlying dT = some (.slice elem)) (hs : (P.info? elem).map (·.size) = some 1) (hg : w.heap[g]? = some (.cells cur t (0, 0))) (hm : m = Nat.min s.size dLen) (hfit : o + m ≤ cur.size) :
    (Builtin.copy_ #[dT, sT] ty #[.slice (some ⟨g, o, none⟩) dLen dCap, .string s]).run P w =
      .ok (goInt m) (w.setRow g (cur.toList.take o ++ Lib.byteCells (s.data.toList.take m) ++ cur.toList.drop (o + m)).toArray) := by
  have hms : m ≤ s.size := by rw [hm]; exact Nat.min_le_left _ _
  have hlen : (Lib.byteCells (s.data.toList.take m)).length = m := by
    rw [Lib.byteCells_length, List.length_take]
    have : s.data.toList.length = s.size := rfl
    omega
  have hst := run_storeCells_at P g o t (Lib.byteCells (s.data.toList.take m)) 0 cur w hg (by rw [hlen]; simpa using hfit) (byteCells_one _)
  have htk : List.take m (List.map (fun b : UInt8 => Value.int IntKind.u8 (b.toNat : Int)) s.data.toList) = Lib.byteCells (s.data.toList.take m) := by
    rw [← List.map_take]; rfl
  rw [hlen] at hst
  simp only [Nat.add_zero] at hst
  cases hq : P.info? elem with
  | none => simp [hq] at hs
  | some i =>
    simp [Builtin.copy_, run_underlying hu, Builtin.lenOf, Builtin.firstCells, sizeOf, typeInfo, hq, ← hm]
    rw [htk, hst]
    simp [Result.andThen]

/-- 'copy(dst, s)' where nothing fits, or there is nothing to copy. -/
theorem run_copy_str0 {P : Program} (w : World) (dT sT ty elem : TypeId) (d : Option Addr) (dLen dCap : Nat) (s : ByteArray)
    (hu : P.underlying dT = some (.slice elem)) (hs : (P.info? elem).map (·.size) = some 1) (h0 : Nat.min s.size dLen = 0) :
    (Builtin.copy_ #[dT, sT] ty #[.slice d dLen dCap, .string s]).run P w = .ok (goInt 0) w := by
  cases hq : P.info? elem with
  | none => simp [hq] at hs
  | some i =>
    cases d <;> simp [Builtin.copy_, run_underlying hu, Builtin.lenOf, Builtin.firstCells, sizeOf, typeInfo, hq, h0, storeCells]

def WriteStrOk : Prop := ∀ (N b : Nat) (d : List UInt8) (s : ByteArray) (w : World), Buf N b d w → b < N → N ≤ w.heap.size → 1 ≤ s.size → d.length + s.size ≤ 140737488355328 →
  Calls Tryf.prog 77 #[.pointer (some ⟨b, 0, none⟩), .string s] w fun e w' => e = .returned (.tuple #[.int .i64 s.size, .nilIface]) ∧ Buf N b (d ++ s.data.toList) w' ∧ Fr N [b] w w'
end Go.Proofs.Qxb6616642aFmt
