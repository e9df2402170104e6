import Derived.Test.Qxb6616642aFmtChecked
import Derived.WalkKit
import Derived.Below
import Derived.Deep.QuietTactic
import Derived.BigQuiet
import Derived.RegionTactic
import Derived.BigRegion
import Derived.Lib.Builder
import Derived.Lib.UnsafeStr
namespace Go.Proofs.Qxb6616642aFmt
open Go.RowKit

/-- From w to w': of the blocks below N all but those of 'l' stand as they stood. -/
structure Fr (N : Nat) (l : List Nat) (w w' : World) : Prop where
  os : w'.os = w.os
  tape : w'.tape = w.tape
  output : w'.output = w.output
  size : w.heap.size ≤ w'.heap.size
  block : ∀ k, k < N → k ∉ l → w'.heap[k]? = w.heap[k]?

theorem Fr.refl (N : Nat) (l : List Nat) (w : World) : Fr N l w w := ⟨rfl, rfl, rfl, Nat.le_refl _, fun _ _ _ => rfl⟩
theorem Fr.trans {N : Nat} {l : List Nat} {a b c : World} (h : Fr N l a b) (k : Fr N l b c) : Fr N l a c :=
  ⟨k.os.trans h.os, k.tape.trans h.tape, k.output.trans h.output, Nat.le_trans h.size k.size, fun i hi hl => (k.block i hi hl).trans (h.block i hi hl)⟩
theorem Fr.mono {N : Nat} {l l' : List Nat} {a b : World} (h : Fr N l a b) (hl : ∀ k, k ∈ l → k ∈ l') : Fr N l' a b :=
  ⟨h.os, h.tape, h.output, h.size, fun i hi hk => h.block i hi (fun e => hk (hl i e))⟩
theorem Fr.drewN {N : Nat} {l : List Nat} {a w : World} (h : Fr N l a w) (n : Nat) : Fr N l a (w.drewN n) := ⟨h.os, h.tape, h.output, h.size, h.block⟩
theorem Fr.drew {N : Nat} {l : List Nat} {a w : World} (h : Fr N l a w) : Fr N l a w.drew := ⟨h.os, h.tape, h.output, h.size, h.block⟩
theorem Fr.setCell {N : Nat} {l : List Nat} {a w : World} (h : Fr N l a w) {b i : Nat} (hb : b ∈ l ∨ N ≤ b) (v : Value) : Fr N l a (w.setCell ⟨b, i, none⟩ v) :=
  h.trans ⟨rfl, rfl, rfl, by simp [World.setCell], fun k hk hl => Below.heap_setCell _ _ _ _ (by
    rintro rfl
    rcases hb with hb | hb
    · exact hl hb
    · exact absurd hk (by simpa using hb))⟩
theorem Fr.setRow {N : Nat} {l : List Nat} {a w : World} (h : Fr N l a w) {g : Nat} (hb : g ∈ l ∨ N ≤ g) (cs : Array Value) : Fr N l a (w.setRow g cs) :=
  h.trans ⟨rfl, rfl, rfl, by simp, fun k hk hl => setRow_other _ _ _ _ (by
    rintro rfl
    rcases hb with hb | hb
    · exact hl hb
    · omega)⟩
theorem Fr.alloc {N : Nat} {l : List Nat} {a w : World} (h : Fr N l a w) (hN : N ≤ w.heap.size) (o : Obj) : Fr N l a (w.alloc o) :=
  h.trans ⟨rfl, rfl, rfl, by simp, fun k hk _ => Below.heap_alloc _ _ _ (by omega)⟩
theorem Fr.below {N B : Nat} {l : List Nat} {a w w' : World} (h : Fr N l a w) (hN : N ≤ B) (hb : Below B w w') : Fr N l a w' :=
  h.trans ⟨hb.os, hb.tape, hb.output, hb.size, fun k hk _ => hb.block k (by omega)⟩
/-- Where the named blocks all lie from B on: nothing below B has turned. -/
theorem Fr.toBelow {N B : Nat} {l : List Nat} {w w' : World} (h : Fr N l w w') (hB : B ≤ N) (hl : ∀ k, k ∈ l → B ≤ k) : Below B w w' :=
  ⟨h.os, h.tape, h.output, h.size, fun k hk => h.block k (by omega) (fun e => by have := hl k e; omega)⟩

/-- A bytes.Buffer in block b that has only been written, holding the bytes d: no row yet, or a row of its own from block N on. -/
def Buf (N b : Nat) (d : List UInt8) (w : World) : Prop :=
  ∃ lr, (d = [] ∧ w.heap[b]? = some (.cells #[.slice none 0 0, .int .i64 0, .int .i8 lr] 45 (0, 0))) ∨
    ∃ g cap cur, w.heap[b]? = some (.cells #[.slice (some ⟨g, 0, none⟩) d.length cap, .int .i64 0, .int .i8 lr] 45 (0, 0)) ∧ N ≤ g ∧
      w.heap[g]? = some (.cells cur 5 (0, 0)) ∧ 1 ≤ d.length ∧ d.length ≤ cap ∧ cap ≤ maxLen ∧ cur.size = cap ∧ cur.toList.take d.length = Lib.byteCells d

theorem Buf.carry {N b : Nat} {d : List UInt8} {w w' : World} (h : Buf N b d w) (hb : w'.heap[b]? = w.heap[b]?) (hk : ∀ k, N ≤ k → k < w.heap.size → w'.heap[k]? = w.heap[k]?) : Buf N b d w' := by
  obtain ⟨lr, h | ⟨g, cap, cur, h1, h2, h3, r⟩⟩ := h
  · exact ⟨lr, Or.inl ⟨h.1, hb.trans h.2⟩⟩
  · exact ⟨lr, Or.inr ⟨g, cap, cur, hb.trans h1, h2, (hk g h2 (Array.getElem?_eq_some_iff.1 h3).1).trans h3, r⟩⟩

/-- A bufio.Writer in block q, its array in block r, over the buffer in block b: n bytes stand in its array. d1: what the buffer holds; d2: what the array's first cells hold. -/
structure BW (N b r q : Nat) (d1 d2 : List UInt8) (w : World) : Prop where
  hb : b < N
  hr : r < N
  hq : q < N
  hbr : b ≠ r
  hbq : b ≠ q
  hrq : r ≠ q
  hN : N ≤ w.heap.size
  buf : Buf N b d1 w
  row : ∃ cur : Array Value, w.heap[r]? = some (.cells cur 5 (0, 0)) ∧ cur.size = 4096 ∧ cur.toList.take d2.length = Lib.byteCells d2
  hn : d2.length ≤ 4096
  st : w.heap[q]? = some (.cells #[.nilIface, .slice (some ⟨r, 0, none⟩) 4096 4096, .int .i64 d2.length, .iface 25 (.pointer (some ⟨b, 0, none⟩))] 63 (0, 0))

section
variable {N b r q : Nat} {d1 d2 : List UInt8} {w : World}
theorem BW.c0 (h : BW N b r q d1 d2 w) : w.cell? ⟨q, 0, none⟩ = some .nilIface := by rw [Lib.cell_of_heap h.st]; rfl
theorem BW.c1 (h : BW N b r q d1 d2 w) : w.cell? ⟨q, 1, none⟩ = some (.slice (some ⟨r, 0, none⟩) 4096 4096) := by rw [Lib.cell_of_heap h.st]; rfl
theorem BW.c2 (h : BW N b r q d1 d2 w) : w.cell? ⟨q, 2, none⟩ = some (.int .i64 d2.length) := by rw [Lib.cell_of_heap h.st]; rfl
theorem BW.c3 (h : BW N b r q d1 d2 w) : w.cell? ⟨q, 3, none⟩ = some (.iface 25 (.pointer (some ⟨b, 0, none⟩))) := by rw [Lib.cell_of_heap h.st]; rfl
theorem BW.f (h : BW N b r q d1 d2 w) (j : Nat) : w.frozen? ⟨q, j, none⟩ = false := Lib.frozen_of_heap h.st j
theorem BW.drewN (h : BW N b r q d1 d2 w) (n : Nat) : BW N b r q d1 d2 (w.drewN n) := ⟨h.hb, h.hr, h.hq, h.hbr, h.hbq, h.hrq, h.hN, h.buf, h.row, h.hn, h.st⟩
end
end Go.Proofs.Qxb6616642aFmt
