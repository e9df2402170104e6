import Derived.Test.Qxb6616667aDoorF1
namespace Go.Proofs.Qxb6616667aDoor
open Go.RowKit

/-- The kinds of state that the laws' functions call reachable, as far as resume needs them. -/
def resA (cut : ByteArray) (l : Bool) (h num : Nat) (lit : ByteArray) (d : List UInt8) : Ans :=
  if cut = sString then strA d l h num lit else if cut = sNumber then numA d l h num lit else if cut = sLiteral then litA d l h num lit else ⟨0, true, ByteArray.empty, l, h, num, lit⟩

def Reach (cut : ByteArray) (l : Bool) (h num : Nat) : Prop :=
  (cut = ByteArray.empty ∨ cut = sString ∨ cut = sNumber ∨ cut = sLiteral) ∧ h ≤ 4 ∧ (l = true → h = 0) ∧ num ≤ 8 ∧ (cut = sNumber → 1 ≤ num)

set_option maxHeartbeats 1600000 in
set_option maxRecDepth 100000 in
theorem resume_any (B : Nat) (a : Option Addr) (d : List UInt8) (c : Nat) (cut : ByteArray) (l : Bool) (h num : Nat) (lit : ByteArray) (w : World)
    (hS : Scan B cut l h num lit w) (hC : Chk B w a d) (hT : TabB B w) (hm : d.length ≤ 1048576) (hdc : d.length ≤ c) (hcm : c ≤ 1152921504606846976) (hr : Reach cut l h num) :
    Calls Tryd.prog 17 #[.pointer (some ⟨B, 0, none⟩), .slice a d.length c] w fun e w' =>
      e = .returned (resA cut l h num lit d).val ∧ Below B w w' ∧ (resA cut l h num lit d).after B w' := by
  obtain ⟨hcut, hh, hlh, hnum, hnum1⟩ := hr
  have hb5 : Below B w (w.setCell ⟨B, 5, none⟩ (.string ByteArray.empty)) := (Below.refl B w).setCell (p := ⟨B, 5, none⟩) (Nat.le_refl B) _
  have hS1 := hS.set_cut ByteArray.empty
  have hC1 := hC.below hb5
  have hT1 := hT.below hb5
  have n1 : ¬ sNumber = sString := by decide
  have n2 : ¬ sLiteral = sString := by decide
  have n3 : ¬ sLiteral = sNumber := by decide
  have n4 : ¬ ByteArray.empty = sString := by decide
  have n5 : ¬ ByteArray.empty = sNumber := by decide
  have n6 : ¬ ByteArray.empty = sLiteral := by decide
  rcases hcut with rfl | rfl | rfl | rfl
  · have hA : resA ByteArray.empty l h num lit d = ⟨0, true, ByteArray.empty, l, h, num, lit⟩ := by unfold resA; rw [if_neg n4, if_neg n5, if_neg n6]
    rw [hA]
    have HS1 := Hid.mk' hS1
    obtain ⟨c5, c6, c7, c8, c9, f5, f6, f7, f8, f9⟩ := hS
    clear hS1 hC1 hT1 n1 n2 n3 n4 n5 n6 hA hC hT hnum1
    go_enter Tryd.func17, Tryd.ntmps17
    go_wp2
    go_ret2
    exact ⟨rfl, hb5, HS1.out⟩
  · have hA : resA sString l h num lit d = strA d l h num lit := by unfold resA; rw [if_pos rfl]
    rw [hA]
    have hX := Hid.mk' (text_any B a d c h l num lit _ hS1 hC1 hT1 hm hdc hcm hh)
    obtain ⟨c5, c6, c7, c8, c9, f5, f6, f7, f8, f9⟩ := hS
    unfold sString at c5
    clear hS1 hC1 hT1 n1 n2 n3 n4 n5 n6 hA hC hT hnum1
    go_enter Tryd.func17, Tryd.ntmps17
    go_wp2_with (go_at_call 20; refine hX.out.mono ?_; rintro e w' ⟨rfl, hb2, hA2⟩)
    go_ret2
    exact ⟨rfl, hb5.trans hb2, hA2⟩
  · have hA : resA sNumber l h num lit d = numA d l h num lit := by unfold resA; rw [if_neg n1, if_pos rfl]
    rw [hA]
    have hX := Hid.mk' (numberFrom_any B a d c num h l lit _ hS1 hC1 hm (hnum1 rfl) hnum)
    have hc8 := hS1.c8
    obtain ⟨c5, c6, c7, c8, c9, f5, f6, f7, f8, f9⟩ := hS
    unfold sNumber at c5
    clear hS1 hC1 hT1 n1 n2 n3 n4 n5 n6 hA hC hT hnum1
    generalize numA d l h num lit = A at hX
    go_enter Tryd.func17, Tryd.ntmps17
    go_wp2_with (go_at_call 21; refine hX.out.mono ?_; unfold Ans.val; rintro e w' ⟨rfl, hb2, hA2⟩)
    go_ret2
    exact ⟨rfl, hb5.trans hb2, hA2⟩
  · have hA : resA sLiteral l h num lit d = litA d l h num lit := by unfold resA; rw [if_neg n2, if_neg n3, if_pos rfl]
    rw [hA]
    have hX := Hid.mk' (literalFrom_any B a d c num h l lit _ hS1 hC1 hm)
    obtain ⟨c5, c6, c7, c8, c9, f5, f6, f7, f8, f9⟩ := hS
    unfold sLiteral at c5
    clear hS1 hC1 hT1 n1 n2 n3 n4 n5 n6 hA hC hT hnum1
    generalize litA d l h num lit = A at hX
    go_enter Tryd.func17, Tryd.ntmps17
    go_wp2_with (go_at_call 22; refine hX.out.mono ?_; unfold Ans.val; rintro e w' ⟨rfl, hb2, hA2⟩)
    go_ret2
    exact ⟨rfl, hb5.trans hb2, hA2⟩

set_option maxRecDepth 100000 in
theorem zzresume_any (B : Nat) (a : Option Addr) (d : List UInt8) (c : Nat) (cut : ByteArray) (l : Bool) (h num : Nat) (lit : ByteArray) (w : World)
    (hS : Scan B cut l h num lit w) (hC : Chk B w a d) (hT : TabB B w) (hm : d.length ≤ 1048576) (hdc : d.length ≤ c) (hcm : c ≤ 1152921504606846976) (hr : Reach cut l h num) :
    Calls Tryd.prog 9 #[.pointer (some ⟨B, 0, none⟩), .slice a d.length c] w fun e w' =>
      e = .returned (resA cut l h num lit d).val ∧ Below B w w' ∧ (resA cut l h num lit d).after B w' := by
  have hX := Hid.mk' (resume_any B a d c cut l h num lit w hS hC hT hm hdc hcm hr)
  clear hS hC hT hr
  generalize resA cut l h num lit d = A at hX
  go_enter Tryd.func9, Tryd.ntmps9
  go_wp2_with (go_at_call 17; refine hX.out.mono ?_; unfold Ans.val; rintro e w' ⟨rfl, hb2, hA2⟩)
  go_ret2
  exact ⟨rfl, hb2, hA2⟩

set_option maxRecDepth 100000 in
theorem newScan_any (cut : ByteArray) (l : Bool) (h num : Int) (lit : ByteArray) (w : World) :
    Calls Tryd.prog 8 #[.string cut, .bool l, .int .i64 h, .int .i64 num, .string lit] w fun e w' =>
      e = .returned (.pointer (some ⟨w.heap.size, 0, none⟩)) ∧ Below w.heap.size w w' ∧ Scan w.heap.size cut l h num lit w' := by
  go_enter Tryd.func8, Tryd.ntmps8
  go_wp2
  go_ret
  refine ⟨rfl, (Below.refl _ w).alloc (Nat.le_refl _) _, ?_⟩
  exact ⟨by simp, by simp, by simp, by simp, by simp, by simp, by simp, by simp, by simp, by simp⟩

theorem results_tmp5 {fn : Func} {t0 t1 t2 t3 t4 : Tmp} (h : fn.results = #[.tmp t0, .tmp t1, .tmp t2, .tmp t3, .tmp t4]) (tmps : Array Value) (P : Program) (w : World) :
    (results fn tmps).run P w = .ok (.tuple #[tmps.getD t0 undef, tmps.getD t1 undef, tmps.getD t2 undef, tmps.getD t3 undef, tmps.getD t4 undef]) w := by
  simp [results, h]
theorem results_tmp7 {fn : Func} {t0 t1 t2 t3 t4 t5 t6 : Tmp} (h : fn.results = #[.tmp t0, .tmp t1, .tmp t2, .tmp t3, .tmp t4, .tmp t5, .tmp t6]) (tmps : Array Value) (P : Program) (w : World) :
    (results fn tmps).run P w = .ok (.tuple #[tmps.getD t0 undef, tmps.getD t1 undef, tmps.getD t2 undef, tmps.getD t3 undef, tmps.getD t4 undef, tmps.getD t5 undef, tmps.getD t6 undef]) w := by
  simp [results, h]
theorem below_drewN (w : World) : ∀ n, Below w.heap.size w (w.drewN n)
  | 0 => Below.refl _ _
  | n + 1 => (below_drewN w n).drew

set_option maxRecDepth 100000 in
theorem scanState_any (B : Nat) (cut : ByteArray) (l : Bool) (h num : Int) (lit : ByteArray) (w : World) (hS : Scan B cut l h num lit w) :
    Calls Tryd.prog 10 #[.pointer (some ⟨B, 0, none⟩)] w fun e w' => e = .returned (.tuple #[.string cut, .bool l, .int .i64 h, .int .i64 num, .string lit]) ∧ Below w.heap.size w w' := by
  obtain ⟨c5, c6, c7, c8, c9, f5, f6, f7, f8, f9⟩ := hS
  go_enter Tryd.func10, Tryd.ntmps10
  go_wp2
  go_quiet (fail)
  go_wp2
  refine bodyPost_ret (results_tmp5 rfl _ _ _) rfl ?_
  exact ⟨rfl, below_drewN w nq⟩
end Go.Proofs.Qxb6616667aDoor
