import Derived.Test.Qxb6616743aW4
import Derived.Laws.IdiomStrings
namespace Go.Proofs.Qxb6616743a
open Go.RowKit

theorem allT_one (c : UInt8) : allT ⟨#[c]⟩ = tch c.toNat := by
  unfold allT
  show (bch c && true) = _
  rw [Bool.and_true]; rfl
theorem tok_one (c : UInt8) : tok ⟨#[c]⟩ = allT ⟨#[c]⟩ := tok_some (show ¬ (1 : Nat) = 0 by decide)
theorem allT_cut (s : ByteArray) (k : Nat) : (allT (s.extract 0 k) && allT (s.extract k s.size)) = allT s := by
  rw [← allT_append]
  congr 1
  apply ByteArray.ext
  simp

theorem convert_one (c : UInt8) (W : World) : (convert 25 9 (.slice (some ⟨W.heap.size, 0, none⟩) 1 1)).run Try.prog (W.alloc (.cells #[.int .u8 c.toNat] 5)) = .ok (.string ⟨#[c]⟩) (W.alloc (.cells #[.int .u8 c.toNat] 5)) :=
  run_convert_bytes_back (P := Try.prog) _ 25 9 5 ⟨W.heap.size, 0, none⟩ 1 [c] Try.underlying25 Try.underlying5 Try.underlying9 (fun j hj => by
    obtain rfl : j = 0 := by simp at hj; omega
    show (W.alloc (.cells #[.int .u8 c.toNat] 5)).cell? ⟨W.heap.size, 0, none⟩ = _
    simp)

theorem chain {w w1 w2 w3 : World} {o : Obj} (h1 : Below (w.alloc o).heap.size (w.alloc o) w1) (h2 : Below w1.heap.size w1 w2) (h3 : Below w2.drew.heap.size w2.drew w3) : Below w.heap.size w w3 := by
  have h0 : Below w.heap.size w (w.alloc o) := (Below.refl _ w).alloc (Nat.le_refl _) _
  have hd : Below w2.heap.size w2 w2.drew := (Below.refl _ w2).drew
  have a := h0.trans (h1.mono h0.size)
  have b := a.trans (h2.mono a.size)
  have d := b.trans (hd.mono b.size)
  exact d.trans (h3.mono d.size)

set_option maxHeartbeats 1600000 in
set_option maxRecDepth 100000 in
theorem insert_walk (s : ByteArray) (i : Int) (c : UInt8) (w : World) :
    Calls Try.prog 4 #[.string s, .int .i64 i, .int .u8 c.toNat] w fun e w' => e = .returned (.bool true) ∧ Below w.heap.size w w' := by
  have hZ := zzBytes8 s i c.toNat
  by_cases hs : s.size ≤ 1048576
  · rw [show decide (s.size ≤ 1048576) = true by rw [decide_eq_true_iff]; exact hs] at hZ
    by_cases hs2 : s.size ≤ 65536
    · by_cases hi : 0 ≤ i
      · obtain ⟨k, rfl⟩ := Int.eq_ofNat_of_zero_le hi
        by_cases hk : k ≤ s.size
        · have hcv := convert_one c
          have h1 := zzIsToken_any ⟨#[c]⟩
          have hT := isTChar_any c.toNat
          have hS := zzIsToken_any s
          have hW := zzIsToken_any (s.extract 0 k ++ ⟨#[c]⟩ ++ s.extract k s.size)
          rw [tok_one, allT_one] at h1
          have hw : allT (s.extract 0 k ++ ⟨#[c]⟩ ++ s.extract k s.size) = (allT s && tch c.toNat) := by
            rw [allT_append, allT_append, ← allT_cut s k, allT_one, Bool.and_right_comm]
          rw [tok_some (by rw [ByteArray.size_append, ByteArray.size_append]; show ¬ _ + 1 + _ = 0; omega), hw] at hW
          clear hw
          by_cases zs : s.size = 0
          · have hk0 : k = 0 := by omega
            subst hk0
            rw [tok_empty zs] at hS
            rw [allT_empty zs, Bool.true_and] at hW
            cases hc : tch c.toNat with
            | true =>
              rw [hc] at h1 hT hW
              go_enter Try.func4, Try.ntmps4
              go_wp2_with (first | (go_at_call 8; refine (hZ _).mono ?_; rintro e w' ⟨rfl, rfl⟩) | (go_at_call 9; refine (hT _).mono ?_; rintro e w' ⟨rfl, rfl⟩) | (go_at_call 6; first | (refine (h1 _).mono ?_; rintro e w' ⟨rfl, hb1⟩) | (refine (hS _).mono ?_; rintro e w' ⟨rfl, hb2⟩)))
              go_region_with (go_at_call 6; first | (refine (hW _).mono ?_; rintro e w' ⟨rfl, hb3⟩) | (refine (h1 _).mono ?_; rintro e w' ⟨rfl, hb3⟩))
              go_wp2
              go_ret
              exact ⟨rfl, chain hb1 hb2 hb3⟩
            | false =>
              rw [hc] at h1 hT hW
              go_enter Try.func4, Try.ntmps4
              go_wp2_with (first | (go_at_call 8; refine (hZ _).mono ?_; rintro e w' ⟨rfl, rfl⟩) | (go_at_call 9; refine (hT _).mono ?_; rintro e w' ⟨rfl, rfl⟩) | (go_at_call 6; first | (refine (h1 _).mono ?_; rintro e w' ⟨rfl, hb1⟩) | (refine (hS _).mono ?_; rintro e w' ⟨rfl, hb2⟩)))
              go_region_with (go_at_call 6; first | (refine (hW _).mono ?_; rintro e w' ⟨rfl, hb3⟩) | (refine (h1 _).mono ?_; rintro e w' ⟨rfl, hb3⟩))
              go_wp2
              go_ret
              exact ⟨rfl, chain hb1 hb2 hb3⟩
          · have zs0 : ((s.size : Int) == 0) = false := by simpa using zs
            rw [tok_some zs] at hS
            cases hc : tch c.toNat with
            | true =>
              rw [hc] at h1 hT hW
              cases hq : allT s with
              | true =>
                rw [hq] at hS hW
                go_enter Try.func4, Try.ntmps4
                go_wp2_with (first | (go_at_call 8; refine (hZ _).mono ?_; rintro e w' ⟨rfl, rfl⟩) | (go_at_call 9; refine (hT _).mono ?_; rintro e w' ⟨rfl, rfl⟩) | (go_at_call 6; first | (refine (h1 _).mono ?_; rintro e w' ⟨rfl, hb1⟩) | (refine (hS _).mono ?_; rintro e w' ⟨rfl, hb2⟩)))
                go_region_with (go_at_call 6; first | (refine (hW _).mono ?_; rintro e w' ⟨rfl, hb3⟩) | (refine (h1 _).mono ?_; rintro e w' ⟨rfl, hb3⟩))
                go_wp2
                go_ret
                exact ⟨rfl, chain hb1 hb2 hb3⟩
              | false =>
                rw [hq] at hS hW
                go_enter Try.func4, Try.ntmps4
                go_wp2_with (first | (go_at_call 8; refine (hZ _).mono ?_; rintro e w' ⟨rfl, rfl⟩) | (go_at_call 9; refine (hT _).mono ?_; rintro e w' ⟨rfl, rfl⟩) | (go_at_call 6; first | (refine (h1 _).mono ?_; rintro e w' ⟨rfl, hb1⟩) | (refine (hS _).mono ?_; rintro e w' ⟨rfl, hb2⟩)))
                go_region_with (go_at_call 6; first | (refine (hW _).mono ?_; rintro e w' ⟨rfl, hb3⟩) | (refine (h1 _).mono ?_; rintro e w' ⟨rfl, hb3⟩))
                go_wp2
                go_ret
                exact ⟨rfl, chain hb1 hb2 hb3⟩
            | false =>
              rw [hc] at h1 hT hW
              cases hq : allT s with
              | true =>
                rw [hq] at hS hW
                go_enter Try.func4, Try.ntmps4
                go_wp2_with (first | (go_at_call 8; refine (hZ _).mono ?_; rintro e w' ⟨rfl, rfl⟩) | (go_at_call 9; refine (hT _).mono ?_; rintro e w' ⟨rfl, rfl⟩) | (go_at_call 6; first | (refine (h1 _).mono ?_; rintro e w' ⟨rfl, hb1⟩) | (refine (hS _).mono ?_; rintro e w' ⟨rfl, hb2⟩)))
                go_region_with (go_at_call 6; first | (refine (hW _).mono ?_; rintro e w' ⟨rfl, hb3⟩) | (refine (h1 _).mono ?_; rintro e w' ⟨rfl, hb3⟩))
                go_wp2
                go_ret
                exact ⟨rfl, chain hb1 hb2 hb3⟩
              | false =>
                rw [hq] at hS hW
                go_enter Try.func4, Try.ntmps4
                go_wp2_with (first | (go_at_call 8; refine (hZ _).mono ?_; rintro e w' ⟨rfl, rfl⟩) | (go_at_call 9; refine (hT _).mono ?_; rintro e w' ⟨rfl, rfl⟩) | (go_at_call 6; first | (refine (h1 _).mono ?_; rintro e w' ⟨rfl, hb1⟩) | (refine (hS _).mono ?_; rintro e w' ⟨rfl, hb2⟩)))
                go_region_with (go_at_call 6; first | (refine (hW _).mono ?_; rintro e w' ⟨rfl, hb3⟩) | (refine (h1 _).mono ?_; rintro e w' ⟨rfl, hb3⟩))
                go_wp2
                go_ret
                exact ⟨rfl, chain hb1 hb2 hb3⟩
        · have hk' : s.size < k := by omega
          go_enter Try.func4, Try.ntmps4
          go_wp2_with (go_at_call 8; refine (hZ _).mono ?_; rintro e w' ⟨rfl, rfl⟩)
          go_ret
          exact ⟨rfl, Below.refl _ _⟩
      · have hi' : i < 0 := by omega
        go_enter Try.func4, Try.ntmps4
        go_wp2_with (go_at_call 8; refine (hZ _).mono ?_; rintro e w' ⟨rfl, rfl⟩)
        go_ret
        exact ⟨rfl, Below.refl _ _⟩
    · go_enter Try.func4, Try.ntmps4
      go_wp2_with (go_at_call 8; refine (hZ _).mono ?_; rintro e w' ⟨rfl, rfl⟩)
      go_ret
      exact ⟨rfl, Below.refl _ _⟩
  · rw [show decide (s.size ≤ 1048576) = false by rw [decide_eq_false_iff_not]; exact hs] at hZ
    go_enter Try.func4, Try.ntmps4
    go_wp2_with (go_at_call 8; refine (hZ _).mono ?_; rintro e w' ⟨rfl, rfl⟩)
    go_ret
    exact ⟨rfl, Below.refl _ _⟩
end Go.Proofs.Qxb6616743a
