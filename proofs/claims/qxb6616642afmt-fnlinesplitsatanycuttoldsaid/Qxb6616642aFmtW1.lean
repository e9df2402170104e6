import Derived.Test.Qxb6616642aFmtBase
namespace Go.Proofs.Qxb6616642aFmt
open Go.RowKit

set_option maxHeartbeats 400000 in
theorem available_any {N b r q : Nat} {d1 d2 : List UInt8} (w : World) (h : BW N b r q d1 d2 w) :
    Calls Tryf.prog 34 #[.pointer (some ⟨q, 0, none⟩)] w fun e w' => e = .returned (.int .i64 (4096 - (d2.length : Int))) ∧ ∃ n, w' = w.drewN n := by
  have c1 := h.c1
  have c2 := h.c2
  have hn := h.hn
  clear h
  go_enter Tryf.func34, Tryf.ntmps34
  go_wp2
  go_quiet (fail)
  go_wp2
  go_ret
  exact ⟨rfl, _, rfl⟩

set_option maxHeartbeats 400000 in
theorem buffered_any {N b r q : Nat} {d1 d2 : List UInt8} (w : World) (h : BW N b r q d1 d2 w) :
    Calls Tryf.prog 35 #[.pointer (some ⟨q, 0, none⟩)] w fun e w' => e = .returned (.int .i64 (d2.length : Int)) ∧ w' = w := by
  have c1 := h.c1
  have c2 := h.c2
  clear h
  go_enter Tryf.func35, Tryf.ntmps35
  go_wp2
  go_ret
  exact ⟨rfl, rfl⟩
end Go.Proofs.Qxb6616642aFmt
