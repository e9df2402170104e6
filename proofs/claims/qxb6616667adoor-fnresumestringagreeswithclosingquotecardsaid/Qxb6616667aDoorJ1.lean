import Derived.Test.Qxb6616667aDoorH3
import Derived.Laws.IdiomCopy
import Derived.Laws.CopyOwn
import Derived.OwnWalk
namespace Go.Proofs.Qxb6616667aDoor
open Go.RowKit

/-- The chunk as it comes in: nil, or n bytes somewhere. -/
def Came (w : World) (a : Option Addr) (n cap : Nat) (d : List UInt8) : Prop :=
  d.length = n ∧ ((a = none ∧ n = 0 ∧ cap = 0) ∨ ∃ ad, a = some ad ∧ ∀ j (h : j < d.length), w.cell? (ad.add j) = some (.int .u8 d[j].toNat))

theorem Chk.mono {B B' : Nat} {w : World} {a : Option Addr} {d : List UInt8} (h : Chk B w a d) (hB : B ≤ B') : Chk B' w a d := by
  intro j hj
  obtain ⟨g, hg, ha, hc⟩ := h j hj
  exact ⟨g, by omega, ha, hc⟩

theorem setCells_heap (b : Nat) : ∀ (vs : List Value) (o : Nat) (w : World), (w.setCells b o vs).heap.size = w.heap.size ∧ (∀ k, k ≠ b → (w.setCells b o vs).heap[k]? = w.heap[k]?) ∧ (w.setCells b o vs).os = w.os ∧ (w.setCells b o vs).tape = w.tape ∧ (w.setCells b o vs).output = w.output
  | [], o, w => ⟨rfl, fun _ _ => rfl, rfl, rfl, rfl⟩
  | v :: vs, o, w => by
    obtain ⟨h1, h2, h3, h4, h5⟩ := setCells_heap b vs (o + 1) (w.setCell ⟨b, o, none⟩ v)
    refine ⟨by rw [World.setCells, h1]; simp [World.setCell], fun k hk => ?_, by rw [World.setCells, h3]; rfl, by rw [World.setCells, h4]; rfl, by rw [World.setCells, h5]; rfl⟩
    rw [World.setCells, h2 k hk, Below.heap_setCell _ _ _ _ hk]

/-- The copy: what make and copy leave. -/
theorem copied (w : World) (Z : Array Value) (d : List UInt8) (hZ : Z.size = d.length) :
    Below w.heap.size w ((w.alloc (.cells Z 5)).setCells w.heap.size 0 (d.map fun b => .int .u8 b.toNat)) ∧
      w.heap.size < ((w.alloc (.cells Z 5)).setCells w.heap.size 0 (d.map fun b => .int .u8 b.toNat)).heap.size ∧
      ∀ j (h : j < d.length), ((w.alloc (.cells Z 5)).setCells w.heap.size 0 (d.map fun b => .int .u8 b.toNat)).cell? ⟨w.heap.size, j, none⟩ = some (.int .u8 d[j].toNat) := by
  have hs := setCells_heap w.heap.size (d.map fun b => .int .u8 b.toNat) 0 (w.alloc (.cells Z 5))
  have h0 : Below w.heap.size w (w.alloc (.cells Z 5)) := (Below.refl _ w).alloc (Nat.le_refl _) _
  have hsz : (w.alloc (.cells Z 5)).heap.size = w.heap.size + 1 := by simp
  refine ⟨h0.trans ⟨hs.2.2.1, hs.2.2.2.1, hs.2.2.2.2, by rw [hs.1]; exact Nat.le_refl _, fun k hk => hs.2.1 k (by omega)⟩, by rw [hs.1, hsz]; omega, fun j hj => ?_⟩
  have h1 := World.cell?_setCells_in w.heap.size (d.map fun b => Value.int .u8 b.toNat) 0 (w.alloc (.cells Z 5)) (by
    intro j hj
    rw [List.length_map] at hj
    simp [hZ, hj]) j (by rw [List.length_map]; exact hj)
  rw [Nat.zero_add] at h1
  rw [h1, List.getElem_map]

set_option maxHeartbeats 1600000 in
set_option maxRecDepth 100000 in
theorem zzBytes_sum (cut : ByteArray) (l : Bool) (h num : Int) (lit : ByteArray) (a : Option Addr) (n c : Nat) (w : World) :
    Calls Tryd.prog 11 #[.string cut, .bool l, .int .i64 h, .int .i64 num, .string lit, .slice a n c] w fun e w' => ∃ b : Bool, e = .returned (.bool b) ∧ w' = w ∧ (b = true → cut.size + lit.size + n ≤ 1048576) := by
  by_cases hs : cut.size + lit.size + n ≤ 1048576
  · refine (zzBytes_any cut l h num lit a n c w).mono ?_
    rintro e w' ⟨b, he, hw, _⟩
    exact ⟨b, he, hw, fun _ => hs⟩
  · by_cases h1 : cut.size ≤ 1048576
    · by_cases h2 : lit.size ≤ 1048576
      · by_cases h3 : n ≤ 1048576
        · by_cases h4 : cut.size + lit.size ≤ 1048576
          · go_enter Tryd.func11, Tryd.ntmps11
            go_wp2
            all_goals
              go_ret
              exact ⟨_, rfl, rfl, fun hb => by cases hb⟩
          · go_enter Tryd.func11, Tryd.ntmps11
            go_wp2
            all_goals
              go_ret
              exact ⟨_, rfl, rfl, fun hb => by cases hb⟩
        · refine (zzBytes_any cut l h num lit a n c w).mono ?_
          rintro e w' ⟨b, he, hw, hb⟩
          exact ⟨b, he, hw, fun e => absurd (hb e).2.2 h3⟩
      · refine (zzBytes_any cut l h num lit a n c w).mono ?_
        rintro e w' ⟨b, he, hw, hb⟩
        exact ⟨b, he, hw, fun e => absurd (hb e).2.1 h2⟩
    · refine (zzBytes_any cut l h num lit a n c w).mono ?_
      rintro e w' ⟨b, he, hw, hb⟩
      exact ⟨b, he, hw, fun e => absurd (hb e).1 h1⟩
end Go.Proofs.Qxb6616667aDoor
