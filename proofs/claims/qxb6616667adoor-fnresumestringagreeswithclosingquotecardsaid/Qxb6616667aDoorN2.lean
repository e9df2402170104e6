import Derived.Test.Qxb6616667aDoorE2
import Derived.Test.Qxb6616667aDoorN1
namespace Go.Proofs.Qxb6616667aDoor
open Go.RowKit

theorem digB_lo {b : UInt8} (h : b.toNat < 48) : digB b = false := by unfold digB; rw [decide_eq_false_iff_not]; omega
theorem digB_hi {b : UInt8} (h : 57 < b.toNat) : digB b = false := by unfold digB; rw [decide_eq_false_iff_not]; omega
theorem digB_in {b : UInt8} (h : 48 ≤ b.toNat) (h' : b.toNat ≤ 57) : digB b = true := by unfold digB; rw [decide_eq_true_iff]; omega

set_option maxRecDepth 100000 in
theorem jdigit_any (b : UInt8) (w : World) : Calls Tryd.prog 19 #[.int .u8 b.toNat] w fun e w' => e = .returned (.bool (digB b)) ∧ w' = w := by
  rcases (show b.toNat < 48 ∨ (48 ≤ b.toNat ∧ b.toNat ≤ 57) ∨ 57 < b.toNat by omega) with h | ⟨h, h'⟩ | h
  · rw [digB_lo h]
    go_enter Tryd.func19, Tryd.ntmps19
    go_wp2
    go_ret
    exact ⟨rfl, rfl⟩
  · rw [digB_in h h']
    have k1 : decide ((b.toNat : Int) ≤ 57) = true := dle (k := 57) h'
    go_enter Tryd.func19, Tryd.ntmps19
    go_wp2
    go_ret
    exact ⟨by first | rfl | exact congrArg (fun x => Ending.returned (.bool x)) k1, rfl⟩
  · rw [digB_hi h]
    have k1 : decide ((b.toNat : Int) ≤ 57) = false := dnle (k := 57) h
    go_enter Tryd.func19, Tryd.ntmps19
    go_wp2
    go_ret
    exact ⟨by first | rfl | exact congrArg (fun x => Ending.returned (.bool x)) k1, rfl⟩

set_option maxRecDepth 100000 in
theorem isDigit_any (b : UInt8) (w : World) : Calls Tryd.prog 34 #[.int .u8 b.toNat] w fun e w' => e = .returned (.bool (digB b)) ∧ w' = w := by
  rcases (show b.toNat < 48 ∨ (48 ≤ b.toNat ∧ b.toNat ≤ 57) ∨ 57 < b.toNat by omega) with h | ⟨h, h'⟩ | h
  · rw [digB_lo h]
    go_enter Tryd.func34, Tryd.ntmps34
    go_wp2
    go_ret
    exact ⟨rfl, rfl⟩
  · rw [digB_in h h']
    have k1 : decide ((b.toNat : Int) ≤ 57) = true := dle (k := 57) h'
    go_enter Tryd.func34, Tryd.ntmps34
    go_wp2
    go_ret
    exact ⟨by first | rfl | exact congrArg (fun x => Ending.returned (.bool x)) k1, rfl⟩
  · rw [digB_hi h]
    have k1 : decide ((b.toNat : Int) ≤ 57) = false := dnle (k := 57) h
    go_enter Tryd.func34, Tryd.ntmps34
    go_wp2
    go_ret
    exact ⟨by first | rfl | exact congrArg (fun x => Ending.returned (.bool x)) k1, rfl⟩

set_option maxRecDepth 100000 in
theorem jhex_any (b : UInt8) (w : World) : Calls Tryd.prog 14 #[.int .u8 b.toNat] w fun e w' => e = .returned (.bool (hexB b)) ∧ w' = w := by
  have hD := jdigit_any b
  rcases hexB_cases b with ⟨hb, hr⟩ | ⟨hb, hr⟩
  · rw [hb]
    rcases hr with ⟨hr, hr'⟩ | ⟨hr, hr'⟩ | ⟨hr, hr'⟩
    · rw [digB_in hr hr'] at hD
      clear hb
      go_enter Tryd.func14, Tryd.ntmps14
      go_wp2_with (go_at_call 19; refine (hD _).mono ?_; rintro e w' ⟨rfl, rfl⟩)
      go_ret
      exact ⟨rfl, rfl⟩
    · rw [digB_hi (by omega)] at hD
      have k2 : decide ((b.toNat : Int) ≤ 102) = true := dle (k := 102) hr'
      clear hb
      go_enter Tryd.func14, Tryd.ntmps14
      go_wp2_with (go_at_call 19; refine (hD _).mono ?_; rintro e w' ⟨rfl, rfl⟩)
      all_goals
        go_ret
        exact ⟨by first | rfl | simp [k2] | (simp; omega), rfl⟩
    · rw [digB_hi (by omega)] at hD
      have k2 : decide ((b.toNat : Int) ≤ 70) = true := dle (k := 70) hr'
      clear hb
      go_enter Tryd.func14, Tryd.ntmps14
      go_wp2_with (go_at_call 19; refine (hD _).mono ?_; rintro e w' ⟨rfl, rfl⟩)
      all_goals
        go_ret
        exact ⟨by first | rfl | simp [k2] | (simp; omega), rfl⟩
  · rw [hb]
    rcases hr with hr | ⟨hr, hr'⟩ | ⟨hr, hr'⟩ | hr
    · rw [digB_lo hr] at hD
      clear hb
      go_enter Tryd.func14, Tryd.ntmps14
      go_wp2_with (go_at_call 19; refine (hD _).mono ?_; rintro e w' ⟨rfl, rfl⟩)
      go_ret
      exact ⟨rfl, rfl⟩
    · rw [digB_hi (by omega)] at hD
      clear hb
      go_enter Tryd.func14, Tryd.ntmps14
      go_wp2_with (go_at_call 19; refine (hD _).mono ?_; rintro e w' ⟨rfl, rfl⟩)
      go_ret
      exact ⟨rfl, rfl⟩
    · rw [digB_hi (by omega)] at hD
      have k2 : decide ((b.toNat : Int) ≤ 70) = false := dnle (k := 70) (by omega)
      clear hb
      go_enter Tryd.func14, Tryd.ntmps14
      go_wp2_with (go_at_call 19; refine (hD _).mono ?_; rintro e w' ⟨rfl, rfl⟩)
      all_goals
        go_ret
        exact ⟨by first | rfl | simp [k2] | (simp; omega), rfl⟩
    · rw [digB_hi (by omega)] at hD
      have k2 : decide ((b.toNat : Int) ≤ 70) = false := dnle (k := 70) (by omega)
      have k3 : decide ((b.toNat : Int) ≤ 102) = false := dnle (k := 102) (by omega)
      clear hb
      go_enter Tryd.func14, Tryd.ntmps14
      go_wp2_with (go_at_call 19; refine (hD _).mono ?_; rintro e w' ⟨rfl, rfl⟩)
      all_goals
        go_ret
        exact ⟨by first | rfl | simp [k2, k3] | (simp; omega), rfl⟩

set_option maxHeartbeats 800000 in
set_option maxRecDepth 100000 in
theorem jsim_any (b : UInt8) (w : World) : Calls Tryd.prog 13 #[.int .u8 b.toNat] w fun e w' => e = .returned (.bool (simB b)) ∧ w' = w := by
  cases hs : simB b with
  | true =>
    rcases sim_cases hs with h | h | h | h | h | h | h | h
    all_goals
      rw [h]
      clear hs h
      go_enter Tryd.func13, Tryd.ntmps13
      go_wp2
      go_ret
      exact ⟨rfl, rfl⟩
  | false =>
    obtain ⟨e1, e2, e3, e4, e5, e6, e7, e8⟩ := sim_not hs
    clear hs
    go_enter Tryd.func13, Tryd.ntmps13
    go_wp2
    go_ret
    exact ⟨rfl, rfl⟩

set_option maxRecDepth 100000 in
theorem jwhole_any (q : Nat) (hq : 1 ≤ q) (hq' : q ≤ 8) (w : World) : Calls Tryd.prog 16 #[.int .i64 q] w fun e w' => e = .returned (.bool (wholeN q)) ∧ w' = w := by
  rcases (show q = 1 ∨ q = 2 ∨ q = 3 ∨ q = 4 ∨ q = 5 ∨ q = 6 ∨ q = 7 ∨ q = 8 by omega) with rfl | rfl | rfl | rfl | rfl | rfl | rfl | rfl
  all_goals
    go_enter Tryd.func16, Tryd.ntmps16
    go_wp2
    go_ret
    exact ⟨rfl, rfl⟩

set_option maxRecDepth 100000 in
theorem whole_any (q : Nat) (hq : 1 ≤ q) (hq' : q ≤ 8) (w : World) : Calls Tryd.prog 27 #[.int .i64 q] w fun e w' => e = .returned (.bool (wholeN q)) ∧ w' = w := by
  rcases (show q = 1 ∨ q = 2 ∨ q = 3 ∨ q = 4 ∨ q = 5 ∨ q = 6 ∨ q = 7 ∨ q = 8 by omega) with rfl | rfl | rfl | rfl | rfl | rfl | rfl | rfl
  all_goals
    go_enter Tryd.func27, Tryd.ntmps27
    go_wp2
    go_ret
    exact ⟨rfl, rfl⟩

theorem stepZ_of {q : Nat} {b : UInt8} {k : Nat} (h : cls b = k) : stepZ q b = stepZC q k := by subst h; rfl

set_option maxHeartbeats 1600000 in
set_option maxRecDepth 100000 in
theorem numberStep_any (q : Nat) (hq : 1 ≤ q) (hq' : q ≤ 8) (b : UInt8) (w : World) : Calls Tryd.prog 15 #[.int .i64 q, .int .u8 b.toNat] w fun e w' => e = .returned (.int .i64 (stepZ q b)) ∧ w' = w := by
  have hD := jdigit_any b
  rw [dig_cls] at hD
  rcases cls_cases b with ⟨h, hb⟩ | ⟨h, hb, hb', hn⟩ | ⟨h, hb⟩ | ⟨h, hb⟩ | ⟨h, hb⟩ | ⟨h, hb⟩ | ⟨h, hb⟩ | ⟨h, hb, hn⟩
  case inl | inr.inr.inl | inr.inr.inr.inl | inr.inr.inr.inr.inl | inr.inr.inr.inr.inr.inl | inr.inr.inr.inr.inr.inr.inl =>
    rw [stepZ_of h]
    rw [h] at hD
    rw [hb] at hD ⊢
    clear h hb
    rcases (show q = 1 ∨ q = 2 ∨ q = 3 ∨ q = 4 ∨ q = 5 ∨ q = 6 ∨ q = 7 ∨ q = 8 by omega) with rfl | rfl | rfl | rfl | rfl | rfl | rfl | rfl
    all_goals
      go_enter Tryd.func15, Tryd.ntmps15
      go_wp2_with (go_at_call 19; refine (hD _).mono ?_; rintro e w' ⟨rfl, rfl⟩)
      go_ret
      exact ⟨rfl, rfl⟩
  · rw [stepZ_of h]
    rw [h] at hD
    obtain ⟨e1, e2, e3, e4, e5, e6⟩ := hn
    have k1 : decide ((b.toNat : Int) ≤ 57) = true := dle (k := 57) hb'
    clear h
    rcases (show q = 1 ∨ q = 2 ∨ q = 3 ∨ q = 4 ∨ q = 5 ∨ q = 6 ∨ q = 7 ∨ q = 8 by omega) with rfl | rfl | rfl | rfl | rfl | rfl | rfl | rfl
    all_goals
      go_enter Tryd.func15, Tryd.ntmps15
      go_wp2_with (go_at_call 19; refine (hD _).mono ?_; rintro e w' ⟨rfl, rfl⟩)
      go_ret
      exact ⟨rfl, rfl⟩
  · rw [stepZ_of h]
    rw [h] at hD
    obtain ⟨e1, e2, e3, e4, e5, e6⟩ := hn
    clear h
    rcases hb with hb | hb
    · rcases (show q = 1 ∨ q = 2 ∨ q = 3 ∨ q = 4 ∨ q = 5 ∨ q = 6 ∨ q = 7 ∨ q = 8 by omega) with rfl | rfl | rfl | rfl | rfl | rfl | rfl | rfl
      all_goals
        go_enter Tryd.func15, Tryd.ntmps15
        go_wp2_with (go_at_call 19; refine (hD _).mono ?_; rintro e w' ⟨rfl, rfl⟩)
        go_ret
        exact ⟨rfl, rfl⟩
    · have k1 : decide ((b.toNat : Int) ≤ 57) = false := dnle (k := 57) hb
      rcases (show q = 1 ∨ q = 2 ∨ q = 3 ∨ q = 4 ∨ q = 5 ∨ q = 6 ∨ q = 7 ∨ q = 8 by omega) with rfl | rfl | rfl | rfl | rfl | rfl | rfl | rfl
      all_goals
        go_enter Tryd.func15, Tryd.ntmps15
        go_wp2_with (go_at_call 19; refine (hD _).mono ?_; rintro e w' ⟨rfl, rfl⟩)
        go_ret
        exact ⟨rfl, rfl⟩

set_option maxHeartbeats 1600000 in
set_option maxRecDepth 100000 in
theorem digitsEnd_any (a : Option Addr) (d : List UInt8) (c i0 : Nat) (w : World) (hC : Chunk w a d) (hi : i0 ≤ d.length) (hm : d.length ≤ 1048576) :
    Calls Tryd.prog 33 #[.slice a d.length c, .int .i64 i0] w fun e w' => e = .returned (.int .i64 (digEnd d i0)) ∧ w' = w := by
  have HC := Hid.mk' hC
  clear hC
  go_enter Tryd.func33, Tryd.ntmps33
  go_wp2
  go_loop [1] (fun vi => ∃ i : Nat, vi = .int .i64 i ∧ i ≤ d.length ∧ Hid (digEnd d i = digEnd d i0)) (fun vi => d.length - (intOf vi).toNat)
  case atStart => exact ⟨i0, rfl, hi, rfl⟩
  case round =>
    obtain ⟨i, rfl, hi2, HE⟩ := hrel
    by_cases hlt : i < d.length
    · obtain ⟨g, rfl, hcell⟩ := HC.out i hlt
      have hD := isDigit_any d[i]
      cases hb : digB d[i] with
      | true =>
        rw [hb] at hD
        have HE2 := Hid.mk' ((digEnd_yes hlt hb).trans HE.out)
        clear hb
        go_wp2_with (go_at_call 34; refine (hD _).mono ?_; rintro e w' ⟨rfl, rfl⟩)
        go_round
        case rel => exact ⟨i + 1, by go_num, by omega, HE2⟩
        case measure => simp [intOf]; omega
      | false =>
        rw [hb] at hD
        have HE2 := Hid.mk' ((digEnd_no hlt hb).symm.trans HE.out)
        clear hb
        go_wp2_with (go_at_call 34; refine (hD _).mono ?_; rintro e w' ⟨rfl, rfl⟩)
        go_ret
        exact ⟨ret_int (by rw [← HE2.out]), rfl⟩
    · have HE2 := Hid.mk' ((digEnd_end (d := d) (i := i) (by omega)).symm.trans HE.out)
      go_wp2
      go_ret
      exact ⟨ret_int (by rw [← HE2.out]), rfl⟩
end Go.Proofs.Qxb6616667aDoor
