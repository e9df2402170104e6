import Derived.Test.Qxb6616667aDoorH1
namespace Go.Proofs.Qxb6616667aDoor
open Go.RowKit

/-- The chunk as the law hands it on: nil, or a block of its own from place 0 on. -/
def Own (a : Option Addr) (d : List UInt8) : Prop := (a = none ∧ d = []) ∨ ∃ g, a = some ⟨g, 0, none⟩

set_option maxHeartbeats 1600000 in
set_option maxRecDepth 100000 in
theorem close_nil (w : World) (hT : Tab w) : Calls Tryd.prog 18 #[.slice none 0 0, .int .i64 0] w fun e w' => e = .returned (cqV (none, false)) ∧ Below w.heap.size w w' := by
  have hst : ∀ wr, Below w.heap.size w wr → Calls Tryd.prog 23 #[.slice none 0 0, .int .i64 0, .bool false] wr fun e w' => e = .returned (.int .i64 0) ∧ Below wr.heap.size wr w' := fun wr hb =>
    stringStop_any none [] 0 0 false wr (fun j hj => absurd hj (Nat.not_lt_zero j)) (hT.below hb) (Nat.le_refl _) (by decide) (by decide)
  have Hst := Hid.mk' hst
  clear hst hT
  go_enter Tryd.func18, Tryd.ntmps18
  go_wp2
  go_loopw [1] (fun vi wr => vi = .int .i64 0 ∧ wr = w) (fun _ _ => 0)
  case atStart => exact ⟨rfl, rfl⟩
  case round =>
    obtain ⟨rfl, rfl⟩ := hrel
    go_wp2_with (go_at_call 23; refine (Hst.out _ (Below.refl _ _)).mono ?_; rintro e w2 ⟨rfl, hb2⟩)
    go_loopw [1, 7, 8] (fun vi vq _ w3 => vi = .int .i64 0 ∧ vq = .int .i64 (-1) ∧ w3 = w2) (fun _ _ _ _ => 0)
    case atStart => exact ⟨rfl, rfl, rfl⟩
    case round =>
      obtain ⟨rfl, rfl, rfl⟩ := hrel
      go_wp2_with (go_at_call 24; refine (Tryd.bytes_IndexByte_nil _ _).mono ?_; rintro e w' ⟨rfl, rfl⟩)
      go_ret2
      exact ⟨rfl, hb2⟩

set_option maxHeartbeats 1600000 in
set_option maxRecDepth 100000 in
theorem close_zero (g : Nat) (w : World) (hT : Tab w) : Calls Tryd.prog 18 #[.slice (some ⟨g, 0, none⟩) 0 0, .int .i64 0] w fun e w' => e = .returned (cqV (none, false)) ∧ Below w.heap.size w w' := by
  have hst : ∀ (a : Option Addr) wr, Below w.heap.size w wr → Calls Tryd.prog 23 #[.slice a 0 0, .int .i64 0, .bool false] wr fun e w' => e = .returned (.int .i64 0) ∧ Below wr.heap.size wr w' := fun a wr hb =>
    stringStop_any a [] 0 0 false wr (fun j hj => absurd hj (Nat.not_lt_zero j)) (hT.below hb) (Nat.le_refl _) (by decide) (by decide)
  have Hst := Hid.mk' hst
  clear hst hT
  go_enter Tryd.func18, Tryd.ntmps18
  go_wp2
  go_loopw [1] (fun vi wr => vi = .int .i64 0 ∧ wr = w) (fun _ _ => 0)
  case atStart => exact ⟨rfl, rfl⟩
  case round =>
    obtain ⟨rfl, rfl⟩ := hrel
    go_wp2_with (go_at_call 23; refine (Hst.out _ _ (Below.refl _ _)).mono ?_; rintro e w2 ⟨rfl, hb2⟩)
    go_loopw [1, 7, 8] (fun vi vq _ w3 => vi = .int .i64 0 ∧ vq = .int .i64 (-1) ∧ w3 = w2) (fun _ _ _ _ => 0)
    case atStart => exact ⟨rfl, rfl, rfl⟩
    case round =>
      obtain ⟨rfl, rfl, rfl⟩ := hrel
      go_wp2_with (go_at_call 24; refine (idx_zero _ _ _ _).mono ?_; rintro e w' ⟨rfl, rfl⟩)
      go_ret2
      exact ⟨rfl, hb2⟩

theorem close_any (a : Option Addr) (d : List UInt8) (i0 : Nat) (w : World) (hO : Own a d) (hC : Chunk w a d) (hT : Tab w) (hm : d.length ≤ 1048576) (hi0 : i0 ≤ d.length) :
    Calls Tryd.prog 18 #[.slice a d.length d.length, .int .i64 i0] w fun e w' => e = .returned (cqV (cqM (d.drop i0) i0)) ∧ Below w.heap.size w w' := by
  rcases hO with ⟨rfl, rfl⟩ | ⟨g, rfl⟩
  · obtain rfl : i0 = 0 := by simpa using hi0
    exact close_nil w hT
  · by_cases hd : 0 < d.length
    · exact close_some g d i0 w hC hT hd hm hi0
    · have hd0 : d = [] := List.length_eq_zero_iff.1 (by omega)
      subst hd0
      obtain rfl : i0 = 0 := by simpa using hi0
      exact close_zero g w hT

set_option maxRecDepth 100000 in
theorem zzclose_any (a : Option Addr) (d : List UInt8) (i0 : Nat) (w : World) (hO : Own a d) (hC : Chunk w a d) (hT : Tab w) (hm : d.length ≤ 1048576) (hi0 : i0 ≤ d.length) :
    Calls Tryd.prog 12 #[.slice a d.length d.length, .int .i64 i0] w fun e w' => e = .returned (cqV (cqM (d.drop i0) i0)) ∧ Below w.heap.size w w' := by
  have hX := Hid.mk' (close_any a d i0 w hO hC hT hm hi0)
  clear hO hC hT
  generalize cqM (d.drop i0) i0 = R at hX
  unfold cqV at hX ⊢
  go_enter Tryd.func12, Tryd.ntmps12
  go_wp2_with (go_at_call 18; refine hX.out.mono ?_; rintro e w' ⟨rfl, hb2⟩)
  go_ret2
  exact ⟨rfl, hb2⟩

set_option maxHeartbeats 1600000 in
set_option maxRecDepth 100000 in
theorem zzBytes_any (cut : ByteArray) (l : Bool) (h num : Int) (lit : ByteArray) (a : Option Addr) (n c : Nat) (w : World) :
    Calls Tryd.prog 11 #[.string cut, .bool l, .int .i64 h, .int .i64 num, .string lit, .slice a n c] w fun e w' => ∃ b : Bool, e = .returned (.bool b) ∧ w' = w ∧ (b = true → cut.size ≤ 1048576 ∧ lit.size ≤ 1048576 ∧ n ≤ 1048576) := by
  by_cases h1 : cut.size ≤ 1048576
  · by_cases h2 : lit.size ≤ 1048576
    · by_cases h3 : n ≤ 1048576
      · go_enter Tryd.func11, Tryd.ntmps11
        go_wp2
        all_goals
          go_ret
          exact ⟨_, rfl, rfl, fun _ => ⟨h1, h2, h3⟩⟩
      · go_enter Tryd.func11, Tryd.ntmps11
        go_wp2
        all_goals
          go_ret
          exact ⟨_, rfl, rfl, fun hb => by cases hb⟩
    · go_enter Tryd.func11, Tryd.ntmps11
      go_wp2
      all_goals
        go_ret
        exact ⟨_, rfl, rfl, fun hb => by cases hb⟩
  · go_enter Tryd.func11, Tryd.ntmps11
    go_wp2
    all_goals
      go_ret
      exact ⟨_, rfl, rfl, fun hb => by cases hb⟩
end Go.Proofs.Qxb6616667aDoor
