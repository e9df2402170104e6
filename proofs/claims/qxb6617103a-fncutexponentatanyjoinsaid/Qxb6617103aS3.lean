import Derived.Test.Qxb6617103aS2
import Derived.RegionTactic
import Derived.BigRegion
namespace Go.Proofs.Qxb6617103a
open Go.RowKit

set_option maxHeartbeats 800000 in
theorem cut_found (s t : ByteArray) (i : Nat) (w : World) (hs : s.size ≤ 2097153) (ht : trim s = t) (hi : idxE t.data.toList = i) :
    Calls Try.prog 12 #[.string s] w fun e w' => e = .returned (.tuple #[.string (t.extract 0 i), .string (t.extract (i + 1) t.size), .bool true]) ∧ Below w.heap.size w w' := by
  have hlt := (idx_at hi).1
  have hlt' : i < t.size := hlt
  have hts : t.size ≤ s.size := by rw [← ht]; exact trim_size s
  have hT := trimSign_any s w (by unfold maxLen; omega)
  rw [ht] at hT
  have hI := fun W => indexAny_any t W (by omega)
  rw [hi] at hI
  have HT := Hid.mk' hT
  have HI := Hid.mk' hI
  clear hT hI ht hi hlt
  go_enter Try.func12, Try.ntmps12
  go_wp2_with (first
    | (go_at_call 11; refine HT.out.mono ?_; rintro e w' ⟨rfl, rfl⟩)
    | (go_at_call 13; refine (HI.out _).mono ?_; rintro e w1 ⟨rfl, hb⟩))
  go_region
  go_wp2
  go_ret3
  exact ⟨rfl, hb.drew⟩

set_option maxHeartbeats 800000 in
theorem cut_none (s t : ByteArray) (w : World) (hs : s.size ≤ 2097153) (ht : trim s = t) (hi : idxE t.data.toList = -1) :
    Calls Try.prog 12 #[.string s] w fun e w' => e = .returned (.tuple #[.string t, .string ⟨#[]⟩, .bool false]) ∧ Below w.heap.size w w' := by
  have hts : t.size ≤ s.size := by rw [← ht]; exact trim_size s
  have hT := trimSign_any s w (by unfold maxLen; omega)
  rw [ht] at hT
  have hI := fun W => indexAny_any t W (by omega)
  rw [hi] at hI
  have HT := Hid.mk' hT
  have HI := Hid.mk' hI
  clear hT hI ht hi
  go_enter Try.func12, Try.ntmps12
  go_wp2_with (first
    | (go_at_call 11; refine HT.out.mono ?_; rintro e w' ⟨rfl, rfl⟩)
    | (go_at_call 13; refine (HI.out _).mono ?_; rintro e w1 ⟨rfl, hb⟩))
  go_ret3
  exact ⟨rfl, hb⟩

set_option maxHeartbeats 800000 in
theorem zzcut_found (s t : ByteArray) (i : Nat) (w : World) (hs : s.size ≤ 2097153) (ht : trim s = t) (hi : idxE t.data.toList = i) :
    Calls Try.prog 8 #[.string s] w fun e w' => e = .returned (.tuple #[.string (t.extract 0 i), .string (t.extract (i + 1) t.size), .bool true]) ∧ Below w.heap.size w w' := by
  have H := Hid.mk' (cut_found s t i w hs ht hi)
  clear ht hi
  go_enter Try.func8, Try.ntmps8
  go_wp2_with (go_at_call 12; refine H.out.mono ?_; rintro e w' ⟨rfl, hb⟩)
  go_ret3
  exact ⟨rfl, hb⟩

set_option maxHeartbeats 800000 in
theorem zzcut_none (s t : ByteArray) (w : World) (hs : s.size ≤ 2097153) (ht : trim s = t) (hi : idxE t.data.toList = -1) :
    Calls Try.prog 8 #[.string s] w fun e w' => e = .returned (.tuple #[.string t, .string ⟨#[]⟩, .bool false]) ∧ Below w.heap.size w w' := by
  have H := Hid.mk' (cut_none s t w hs ht hi)
  clear ht hi
  go_enter Try.func8, Try.ntmps8
  go_wp2_with (go_at_call 12; refine H.out.mono ?_; rintro e w' ⟨rfl, hb⟩)
  go_ret3
  exact ⟨rfl, hb⟩
end Go.Proofs.Qxb6617103a
