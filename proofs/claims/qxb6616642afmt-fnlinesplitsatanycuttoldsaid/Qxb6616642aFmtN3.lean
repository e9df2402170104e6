import Derived.Test.Qxb6616642aFmtN2
namespace Go.Proofs.Qxb6616642aFmt
open Go.RowKit

theorem drewN_drewN (w : World) (a b : Nat) : (w.drewN a).drewN b = w.drewN (a + b) := by
  simp [World.drewN, Nat.add_assoc]

set_option maxHeartbeats 1600000 in
set_option maxRecDepth 100000 in
theorem zzeq_true (g1 g2 n c1 c2 : Nat) (x : List UInt8) (w : World) (hx : x.length = n) (hn : n ≤ 9223372036854775806)
    (h1 : ∀ j (h : j < x.length), w.cell? ⟨g1, j, none⟩ = some (.int .u8 x[j].toNat)) (h2 : ∀ j (h : j < x.length), w.cell? ⟨g2, j, none⟩ = some (.int .u8 x[j].toNat)) :
    Calls Tryf.prog 13 #[.slice (some ⟨g1, 0, none⟩) n c1, .slice (some ⟨g2, 0, none⟩) n c2] w fun e w' => e = .returned (.bool true) ∧ ∃ m, w' = w.drewN m := by
  have H1 := Hid.mk' h1
  have H2 := Hid.mk' h2
  have HX := Hid.mk' hx
  clear h1 h2 hx
  go_enter Tryf.func13, Tryf.ntmps13
  go_wp2
  go_loopw [5] (fun i wr => ∃ k m : Nat, k ≤ n ∧ i = .int .i64 k ∧ wr = w.drewN m) (fun i _ => n - (intOf i).toNat)
  case atStart => exact ⟨0, 0, Nat.zero_le _, rfl, rfl⟩
  case round =>
    obtain ⟨k, m, hk, rfl, rfl⟩ := hrel
    by_cases hlt : k < n
    · have e1 := H1.out k (by rw [HX.out]; exact hlt)
      have e2 := H2.out k (by rw [HX.out]; exact hlt)
      generalize (x[k]'(by rw [HX.out]; exact hlt)).toNat = v at e1 e2
      go_wp2
      go_quiet (fail)
      go_wp2
      go_roundw
      case rel => exact ⟨k + 1, _, by omega, by go_num, rfl⟩
      case measure => simp [intOf]; omega
    · go_wp2
      go_ret
      exact ⟨rfl, _, rfl⟩
end Go.Proofs.Qxb6616642aFmt
