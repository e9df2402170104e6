import Derived.Test.Qxb6616667aDoorG1
namespace Go.Proofs.Qxb6616667aDoor
open Go.RowKit

theorem Below.drewN' {B : Nat} {a w : World} (h : Below B a w) (n : Nat) : Below B a (w.drewN n) := by
  induction n with
  | zero => exact h
  | succ n ih => exact ih.drew

set_option maxHeartbeats 1600000 in
set_option maxRecDepth 100000 in
theorem model_lit (a : Option Addr) (d : List UInt8) (c : Nat) (l : Bool) (h num : Nat) (lit : ByteArray) (w : World) (hC : Chunk w a d) (hm : d.length ≤ 1048576) :
    Calls Tryd.prog 7 #[.string sLiteral, .bool l, .int .i64 h, .int .i64 num, .string lit, .slice a d.length c] w fun e w' =>
      e = .returned (litA d l h num lit).val7 ∧ Below w.heap.size w w' := by
  have HC := Hid.mk' hC
  clear hC
  have E1 := Hid.mk' (fun (k : Nat) (hk : litRun lit.data.toList d = k) (hks : k = lit.size) => show litA d l h num lit = ⟨k, true, ByteArray.empty, l, h, num, lit⟩ by unfold litA; rw [hk, if_pos hks, hks])
  have E2 := Hid.mk' (fun (k : Nat) (hk : litRun lit.data.toList d = k) (hks : k < lit.size) (hkd : k = d.length) => show litA d l h num lit = ⟨k, true, sLiteral, l, h, num, lit.extract k lit.size⟩ by unfold litA; rw [hk, if_neg (by omega), if_pos hkd, hkd])
  have E3 := Hid.mk' (fun (k : Nat) (hk : litRun lit.data.toList d = k) (hks : k < lit.size) (hkd : k < d.length) => show litA d l h num lit = ⟨k, false, ByteArray.empty, l, h, num, lit⟩ by unfold litA; rw [hk, if_neg (by omega), if_neg (by omega)])
  generalize litA d l h num lit = A at E1 E2 E3
  unfold sLiteral
  go_enter Tryd.func7, Tryd.ntmps7
  go_wp2
  go_loopw [28] (fun vk wr => Below w.heap.size w wr ∧ ∃ k : Nat, vk = .int .i64 k ∧ Hid (Same lit d k)) (fun vk _ => lit.size - (intOf vk).toNat)
  case atStart => exact ⟨Below.refl _ _, 0, rfl, Same.zero lit d⟩
  case round =>
    obtain ⟨hb, k, rfl, HK⟩ := hrel
    have hcm : k ≤ 1048576 := Nat.le_trans HK.out.2.1 hm
    by_cases h1 : k < lit.size
    · by_cases h2 : k < d.length
      · obtain ⟨g, rfl, hcell⟩ := (HC.out.below hb) k h2
        have b1 : ((k : Int) == (lit.size : Int)) = false := bno (by omega)
        have b2 : ((k : Int) == (d.length : Int)) = false := bno (by omega)
        by_cases he : lit[k]'h1 = d[k]
        · have HK2 := Hid.mk' (HK.out.step h1 h2 he)
          have hbe : ((d[k].toNat : Int) == ((lit[k]'h1).toNat : Int)) = true := by rw [he]; simp
          clear he
          go_wp2
          go_quiet (fail)
          go_wp2
          go_roundw
          case rel => exact ⟨Below.drewN' hb _, k + 1, by go_num, HK2⟩
          case measure => simp [intOf]; omega
        · have hr := E3.out k (HK.out.stop h1 h2 he) h1 h2
          subst hr
          have hbe : ((d[k].toNat : Int) == ((lit[k]'h1).toNat : Int)) = false := bno (fun e => he (UInt8.toNat_inj.1 e.symm))
          clear he E1 E2 E3
          go_wp2
          go_quiet (fail)
          go_wp2
          refine bodyPost_ret (results_tmp7 rfl _ _ _) rfl ?_
          exact ⟨rfl, Below.drewN' hb _⟩
      · have h2' : k = d.length := by have := HK.out.2.1; omega
        have hr := E2.out k (HK.out.end2 h2) h1 h2'
        subst hr
        have b1 : ((k : Int) == (lit.size : Int)) = false := bno (by omega)
        have b2 : ((k : Int) == (d.length : Int)) = true := by rw [h2']; simp
        clear h2' E1 E2 E3
        go_wp2
        go_quiet (fail)
        go_wp2
        go_region
        go_wp2
        refine bodyPost_ret (results_tmp7 rfl _ _ _) rfl ?_
        exact ⟨rfl, (Below.drewN' hb _).drew⟩
    · have h1' : k = lit.size := by have := HK.out.1; omega
      have hr := E1.out k (HK.out.end1 h1) h1'
      subst hr
      have b1 : ((k : Int) == (lit.size : Int)) = true := by rw [h1']; simp
      clear E1 E2 E3
      go_wp2
      go_quiet (fail)
      go_wp2
      refine bodyPost_ret (results_tmp7 rfl _ _ _) rfl ?_
      exact ⟨rfl, Below.drewN' hb _⟩

/-- The model's whole answer. -/
theorem model_any (a : Option Addr) (d : List UInt8) (c : Nat) (cut : ByteArray) (l : Bool) (h num : Nat) (lit : ByteArray) (w : World) (hC : Chunk w a d) (hm : d.length ≤ 1048576) (hr : Reach cut l h num) :
    Calls Tryd.prog 7 #[.string cut, .bool l, .int .i64 h, .int .i64 num, .string lit, .slice a d.length c] w fun e w' =>
      e = .returned (resA cut l h num lit d).val7 ∧ Below w.heap.size w w' := by
  obtain ⟨hcut, hh, hlh, hnum, hnum1⟩ := hr
  rcases hcut with rfl | rfl | rfl | rfl
  · exact (model_none a d.length c l h num lit w).mono fun e w' ⟨he, hw⟩ => ⟨he, hw ▸ Below.refl _ _⟩
  · exact (model_str a d c l h num lit w hC hm hh).mono fun e w' ⟨he, hw⟩ => ⟨he, hw ▸ Below.refl _ _⟩
  · exact (model_num a d c l h num lit w hC hm (hnum1 rfl) hnum).mono fun e w' ⟨he, hw⟩ => ⟨he, hw ▸ Below.refl _ _⟩
  · exact model_lit a d c l h num lit w hC hm
end Go.Proofs.Qxb6616667aDoor
