import Derived.Test.Qxb6616667aDoorK2
import Derived.Test.Qxb6616667aDoorM1
import Derived.WalkMore
namespace Go.Proofs.Qxb6616667aDoor
open Go.RowKit

/-- The fields of the scan in block B that this road reads and writes. -/
structure Scan (B : Nat) (cut : ByteArray) (l : Bool) (h num : Int) (lit : ByteArray) (w : World) : Prop where
  c5 : w.cell? ⟨B, 5, none⟩ = some (.string cut)
  c6 : w.cell? ⟨B, 6, none⟩ = some (.bool l)
  c7 : w.cell? ⟨B, 7, none⟩ = some (.int .i64 h)
  c8 : w.cell? ⟨B, 8, none⟩ = some (.int .i64 num)
  c9 : w.cell? ⟨B, 9, none⟩ = some (.string lit)
  f5 : w.frozen? ⟨B, 5, none⟩ = false
  f6 : w.frozen? ⟨B, 6, none⟩ = false
  f7 : w.frozen? ⟨B, 7, none⟩ = false
  f8 : w.frozen? ⟨B, 8, none⟩ = false
  f9 : w.frozen? ⟨B, 9, none⟩ = false

theorem off_ne {B i j : Nat} (h : i ≠ j) : (⟨B, i, none⟩ : Addr) ≠ ⟨B, j, none⟩ := fun e => h (by injection e)

theorem cset_same {w : World} {a : Addr} {u v : Value} (h : w.cell? a = some u) : (w.setCell a v).cell? a = some v := by
  exact World.cell?_setCell_same w a v h
theorem cset_other {w : World} {B i j : Nat} {v : Value} (h : i ≠ j) : (w.setCell ⟨B, i, none⟩ v).cell? ⟨B, j, none⟩ = w.cell? ⟨B, j, none⟩ := by
  exact World.cell?_setCell_other w _ v (b := ⟨B, j, none⟩) (off_ne h)

theorem Scan.set_cut {B : Nat} {cut : ByteArray} {l : Bool} {h num : Int} {lit : ByteArray} {w : World} (S : Scan B cut l h num lit w) (x : ByteArray) : Scan B x l h num lit (w.setCell ⟨B, 5, none⟩ (.string x)) :=
  ⟨cset_same S.c5, (cset_other (by decide)).trans S.c6, (cset_other (by decide)).trans S.c7, (cset_other (by decide)).trans S.c8, (cset_other (by decide)).trans S.c9,
    by simpa using S.f5, by simpa using S.f6, by simpa using S.f7, by simpa using S.f8, by simpa using S.f9⟩
theorem Scan.set_l {B : Nat} {cut : ByteArray} {l : Bool} {h num : Int} {lit : ByteArray} {w : World} (S : Scan B cut l h num lit w) (x : Bool) : Scan B cut x h num lit (w.setCell ⟨B, 6, none⟩ (.bool x)) :=
  ⟨(cset_other (by decide)).trans S.c5, cset_same S.c6, (cset_other (by decide)).trans S.c7, (cset_other (by decide)).trans S.c8, (cset_other (by decide)).trans S.c9,
    by simpa using S.f5, by simpa using S.f6, by simpa using S.f7, by simpa using S.f8, by simpa using S.f9⟩
theorem Scan.set_h {B : Nat} {cut : ByteArray} {l : Bool} {h num : Int} {lit : ByteArray} {w : World} (S : Scan B cut l h num lit w) (x : Int) : Scan B cut l x num lit (w.setCell ⟨B, 7, none⟩ (.int .i64 x)) :=
  ⟨(cset_other (by decide)).trans S.c5, (cset_other (by decide)).trans S.c6, cset_same S.c7, (cset_other (by decide)).trans S.c8, (cset_other (by decide)).trans S.c9,
    by simpa using S.f5, by simpa using S.f6, by simpa using S.f7, by simpa using S.f8, by simpa using S.f9⟩
theorem Scan.set_num {B : Nat} {cut : ByteArray} {l : Bool} {h num : Int} {lit : ByteArray} {w : World} (S : Scan B cut l h num lit w) (x : Int) : Scan B cut l h x lit (w.setCell ⟨B, 8, none⟩ (.int .i64 x)) :=
  ⟨(cset_other (by decide)).trans S.c5, (cset_other (by decide)).trans S.c6, (cset_other (by decide)).trans S.c7, cset_same S.c8, (cset_other (by decide)).trans S.c9,
    by simpa using S.f5, by simpa using S.f6, by simpa using S.f7, by simpa using S.f8, by simpa using S.f9⟩
theorem Scan.set_lit {B : Nat} {cut : ByteArray} {l : Bool} {h num : Int} {lit : ByteArray} {w : World} (S : Scan B cut l h num lit w) (x : ByteArray) : Scan B cut l h num x (w.setCell ⟨B, 9, none⟩ (.string x)) :=
  ⟨(cset_other (by decide)).trans S.c5, (cset_other (by decide)).trans S.c6, (cset_other (by decide)).trans S.c7, (cset_other (by decide)).trans S.c8, cset_same S.c9,
    by simpa using S.f5, by simpa using S.f6, by simpa using S.f7, by simpa using S.f8, by simpa using S.f9⟩
/-- What leaves block B alone leaves the scan alone. -/
theorem Scan.below {B N : Nat} {cut : ByteArray} {l : Bool} {h num : Int} {lit : ByteArray} {w w' : World} (S : Scan B cut l h num lit w) (hN : B < N) (hb : Below N w w') : Scan B cut l h num lit w' :=
  ⟨(hb.cell (p := ⟨B, 5, none⟩) hN).trans S.c5, (hb.cell (p := ⟨B, 6, none⟩) hN).trans S.c6, (hb.cell (p := ⟨B, 7, none⟩) hN).trans S.c7, (hb.cell (p := ⟨B, 8, none⟩) hN).trans S.c8, (hb.cell (p := ⟨B, 9, none⟩) hN).trans S.c9,
    (hb.frozen (p := ⟨B, 5, none⟩) hN).trans S.f5, (hb.frozen (p := ⟨B, 6, none⟩) hN).trans S.f6, (hb.frozen (p := ⟨B, 7, none⟩) hN).trans S.f7, (hb.frozen (p := ⟨B, 8, none⟩) hN).trans S.f8, (hb.frozen (p := ⟨B, 9, none⟩) hN).trans S.f9⟩
theorem Scan.lt {B : Nat} {cut : ByteArray} {l : Bool} {h num : Int} {lit : ByteArray} {w : World} (S : Scan B cut l h num lit w) : B < w.heap.size := World.block_lt_of_cell? w _ S.c5

/-- The bytes d lie in a block below B. -/
def Chk (B : Nat) (w : World) (a : Option Addr) (d : List UInt8) : Prop := ∀ j (h : j < d.length), ∃ g, g < B ∧ a = some ⟨g, 0, none⟩ ∧ w.cell? ⟨g, j, none⟩ = some (.int .u8 d[j].toNat)
theorem Chk.below {B : Nat} {w w' : World} {a : Option Addr} {d : List UInt8} (h : Chk B w a d) (hb : Below B w w') : Chk B w' a d := by
  intro j hj
  obtain ⟨g, hg, ha, hc⟩ := h j hj
  exact ⟨g, hg, ha, by rw [hb.cell (p := ⟨g, j, none⟩) hg]; exact hc⟩
theorem Chk.chunk {B : Nat} {w : World} {a : Option Addr} {d : List UInt8} (h : Chk B w a d) : Chunk w a d := by
  intro j hj
  obtain ⟨g, _, ha, hc⟩ := h j hj
  exact ⟨g, ha, hc⟩
/-- The table of math/bits, below B. -/
def TabB (B : Nat) (w : World) : Prop := 1 < B ∧ Tab w
theorem TabB.below {B : Nat} {w w' : World} (h : TabB B w) (hb : Below B w w') : TabB B w' :=
  ⟨h.1, Nat.lt_of_lt_of_le h.2.1 hb.size, fun j hj => by rw [hb.cell (p := ⟨1, j, none⟩) h.1]; exact h.2.2 j hj⟩

/-- A byte of the chunk, in the form that the walk reads. -/
theorem Chk.get {B : Nat} {w : World} {a : Option Addr} {d : List UInt8} (h : Chk B w a d) {i : Nat} (hi : i < d.length) : ∃ g, g < B ∧ a = some ⟨g, 0, none⟩ ∧ w.cell? ⟨g, i, none⟩ = some (.int .u8 d[i].toNat) := h i hi

theorem drop_cons {d : List UInt8} {i : Nat} (h : i < d.length) : d.drop i = d[i] :: d.drop (i + 1) := List.drop_eq_getElem_cons h

end Go.Proofs.Qxb6616667aDoor
