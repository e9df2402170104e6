import Derived.Test.Qxb6616667aDoorF2
namespace Go.Proofs.Qxb6616667aDoor
open Go.RowKit

/-- The model's answer as a value. -/
def Ans.val7 (A : Ans) : Value := .tuple #[.int .i64 A.n, .bool A.ok, .string A.cut, .bool A.l, .int .i64 A.h, .int .i64 A.num, .string A.lit]

theorem strA_eq {d : List UInt8} {l : Bool} {h num : Nat} {lit : ByteArray} {R : SR} (hR : strM d l h l h 0 = R) : strA d l h num lit = ⟨R.pos, R.ok, cutOf R.more, R.l, R.h, num, lit⟩ := by
  subst hR; rfl

theorem str_at {d : List UInt8} {i : Nat} (hi : i < d.length) (l : Bool) (h : Nat) (sl : Bool) (sh : Nat) : strM (d.drop i) l h sl sh i = strM (d[i] :: d.drop (i + 1)) l h sl sh i := by rw [drop_cons hi]

set_option maxHeartbeats 1600000 in
set_option maxRecDepth 100000 in
theorem model_str (a : Option Addr) (d : List UInt8) (c : Nat) (l0 : Bool) (h0 num : Nat) (lit : ByteArray) (w : World) (hC : Chunk w a d) (hm : d.length ≤ 1048576) (hh0 : h0 ≤ 4) :
    Calls Tryd.prog 7 #[.string sString, .bool l0, .int .i64 h0, .int .i64 num, .string lit, .slice a d.length c] w fun e w' =>
      e = .returned (strA d l0 h0 num lit).val7 ∧ w' = w := by
  have HC := Hid.mk' hC
  have HA := Hid.mk' (fun (R : SR) (hR : strM d l0 h0 l0 h0 0 = R) => strA_eq (num := num) (lit := lit) hR)
  clear hC
  generalize strA d l0 h0 num lit = A at HA
  unfold sString
  go_enter Tryd.func7, Tryd.ntmps7
  go_wp2
  go_loop [19, 20, 21, 22, 23, 24] (fun vl vh vsl vsh vi _ => ∃ (l : Bool) (h : Nat) (sl : Bool) (sh i : Nat), vl = .bool l ∧ vh = .int .i64 h ∧ vsl = .bool sl ∧ vsh = .int .i64 sh ∧ vi = .int .i64 i ∧ h ≤ 4 ∧ i ≤ d.length ∧ Hid (strM (d.drop i) l h sl sh i = strM d l0 h0 l0 h0 0)) (fun _ _ _ _ vi _ => d.length - (intOf vi).toNat)
  case atStart => exact ⟨l0, h0, l0, h0, 0, rfl, rfl, rfl, rfl, rfl, hh0, Nat.zero_le _, rfl⟩
  case round =>
    obtain ⟨l, h, sl, sh, i, rfl, rfl, rfl, rfl, rfl, hh, hi, HE⟩ := hrel
    by_cases hlt : i < d.length
    · obtain ⟨g, rfl, hcell⟩ := HC.out i hlt
      have hE := HE.out.symm
      rw [str_at hlt, strM] at hE
      have hSim := jsim_any d[i]
      have hHex := jhex_any d[i]
      cases l with
      | true =>
        rw [if_pos rfl] at hE
        by_cases hu : d[i] = 117
        · rw [if_pos hu] at hE
          have HE2 := Hid.mk' hE.symm
          have bu : ((d[i].toNat : Int) == 117) = true := by rw [hu]; rfl
          clear hE hu hSim hHex
          go_wp2
          go_round
          case rel => exact ⟨false, 4, sl, sh, i + 1, rfl, rfl, rfl, rfl, by go_num, by omega, hlt, HE2⟩
          case measure => simp [intOf]; omega
        · rw [if_neg hu] at hE
          have bu : ((d[i].toNat : Int) == 117) = false := bno (k := 117) (fun e => hu (UInt8.toNat_inj.1 e))
          cases hs : simB d[i] with
          | true =>
            rw [hs] at hSim
            rw [if_pos hs] at hE
            have HE2 := Hid.mk' hE.symm
            clear hE hu hHex hs
            go_wp2_with (go_at_call 13; refine (hSim _).mono ?_; rintro e w' ⟨rfl, rfl⟩)
            go_round
            case rel => exact ⟨false, h, sl, sh, i + 1, rfl, rfl, rfl, rfl, by go_num, hh, hlt, HE2⟩
            case measure => simp [intOf]; omega
          | false =>
            rw [hs] at hSim
            rw [if_neg (by rw [hs]; exact Bool.false_ne_true)] at hE
            have hA := HA.out _ hE
            subst hA
            clear hE hu hHex hs HA
            go_wp2_with (go_at_call 13; refine (hSim _).mono ?_; rintro e w' ⟨rfl, rfl⟩)
            refine bodyPost_ret (results_tmp7 rfl _ _ _) rfl ?_
            exact ⟨rfl, rfl⟩
      | false =>
        rw [if_neg Bool.false_ne_true] at hE
        by_cases h0' : 0 < h
        · rw [if_pos h0'] at hE
          cases hx : hexB d[i] with
          | true =>
            rw [hx] at hHex
            rw [if_pos hx] at hE
            have HE2 := Hid.mk' hE.symm
            have hw : ((h : Int) - 1) = ((h - 1 : Nat) : Int) := by omega
            clear hE hSim hx
            go_wp2_with (go_at_call 14; refine (hHex _).mono ?_; rintro e w' ⟨rfl, rfl⟩)
            go_round
            case rel => exact ⟨false, h - 1, sl, sh, i + 1, rfl, by go_num, rfl, rfl, by go_num, by omega, hlt, HE2⟩
            case measure => simp [intOf]; omega
          | false =>
            rw [hx] at hHex
            rw [if_neg (by rw [hx]; exact Bool.false_ne_true)] at hE
            have hA := HA.out _ hE
            subst hA
            clear hE hSim hx HA
            go_wp2_with (go_at_call 14; refine (hHex _).mono ?_; rintro e w' ⟨rfl, rfl⟩)
            refine bodyPost_ret (results_tmp7 rfl _ _ _) rfl ?_
            exact ⟨rfl, rfl⟩
        · rw [if_neg h0'] at hE
          have hz : h = 0 := by omega
          subst hz
          clear hSim hHex h0'
          by_cases h34 : d[i] = 34
          · rw [if_pos h34] at hE
            have hA := HA.out _ hE
            subst hA
            have b34 : ((d[i].toNat : Int) == 34) = true := by rw [h34]; rfl
            clear hE h34 HA
            go_wp2
            refine bodyPost_ret (results_tmp7 rfl _ _ _) rfl ?_
            exact ⟨rfl, rfl⟩
          · rw [if_neg h34] at hE
            have b34 : ((d[i].toNat : Int) == 34) = false := bno (k := 34) (fun e => h34 (UInt8.toNat_inj.1 e))
            by_cases h92 : d[i] = 92
            · rw [if_pos h92] at hE
              have HE2 := Hid.mk' hE.symm
              have b92 : ((d[i].toNat : Int) == 92) = true := by rw [h92]; rfl
              clear hE h34 h92
              go_wp2
              go_round
              case rel => exact ⟨true, 0, false, 0, i + 1, rfl, rfl, rfl, rfl, by go_num, by omega, hlt, HE2⟩
              case measure => simp [intOf]; omega
            · rw [if_neg h92] at hE
              have b92 : ((d[i].toNat : Int) == 92) = false := bno (k := 92) (fun e => h92 (UInt8.toNat_inj.1 e))
              by_cases h32 : d[i].toNat < 32
              · rw [if_pos h32] at hE
                have hA := HA.out _ hE
                subst hA
                clear hE h34 h92 HA
                go_wp2
                refine bodyPost_ret (results_tmp7 rfl _ _ _) rfl ?_
                exact ⟨rfl, rfl⟩
              · rw [if_neg h32] at hE
                have HE2 := Hid.mk' hE.symm
                clear hE h34 h92
                go_wp2
                go_round
                case rel => exact ⟨false, 0, false, 0, i + 1, rfl, rfl, rfl, rfl, by go_num, by omega, hlt, HE2⟩
                case measure => simp [intOf]; omega
    · have hE := HE.out.symm
      rw [List.drop_of_length_le (by omega)] at hE
      have hA := HA.out _ hE
      have hie : i = d.length := by omega
      subst hie
      subst hA
      clear hE HA
      go_wp2
      refine bodyPost_ret (results_tmp7 rfl _ _ _) rfl ?_
      exact ⟨rfl, rfl⟩

theorem stepC_range {q k r : Nat} (h : stepC q k = some r) : 1 ≤ r ∧ r ≤ 8 := by
  unfold stepC at h
  split at h <;> first | (cases h; omega) | cases h
theorem numA_end {d : List UInt8} {l : Bool} {h num : Nat} {lit : ByteArray} {q : Nat} (hN : numRun d num 0 = (d.length, q)) : numA d l h num lit = ⟨d.length, true, sNumber, l, h, q, lit⟩ := by
  unfold numA; rw [hN, if_pos rfl]
theorem numA_stop {d : List UInt8} {l : Bool} {h num : Nat} {lit : ByteArray} {i q : Nat} (hi : i < d.length) (hN : numRun d num 0 = (i, q)) : numA d l h num lit = ⟨i, wholeN q, ByteArray.empty, l, h, num, lit⟩ := by
  unfold numA; rw [hN, if_neg (by simp only; omega)]

set_option maxHeartbeats 1600000 in
set_option maxRecDepth 100000 in
theorem model_num (a : Option Addr) (d : List UInt8) (c : Nat) (l : Bool) (h num : Nat) (lit : ByteArray) (w : World) (hC : Chunk w a d) (hm : d.length ≤ 1048576) (hn : 1 ≤ num) (hn' : num ≤ 8) :
    Calls Tryd.prog 7 #[.string sNumber, .bool l, .int .i64 h, .int .i64 num, .string lit, .slice a d.length c] w fun e w' =>
      e = .returned (numA d l h num lit).val7 ∧ w' = w := by
  have HC := Hid.mk' hC
  have HA1 := Hid.mk' (fun (q : Nat) (hN : numRun d num 0 = (d.length, q)) => numA_end (l := l) (h := h) (lit := lit) hN)
  have HA2 := Hid.mk' (fun (i q : Nat) (hi : i < d.length) (hN : numRun d num 0 = (i, q)) => numA_stop (l := l) (h := h) (lit := lit) hi hN)
  clear hC
  generalize numA d l h num lit = A at HA1 HA2
  unfold sNumber
  go_enter Tryd.func7, Tryd.ntmps7
  go_wp2
  go_loop [25, 26, 27] (fun vq vi _ => ∃ q i : Nat, vq = .int .i64 q ∧ vi = .int .i64 i ∧ 1 ≤ q ∧ q ≤ 8 ∧ i ≤ d.length ∧ Hid (numRun d num 0 = numRun (d.drop i) q i)) (fun _ vi _ => d.length - (intOf vi).toNat)
  case atStart => exact ⟨num, 0, rfl, rfl, hn, hn', Nat.zero_le _, rfl⟩
  case round =>
    obtain ⟨q, i, rfl, rfl, hq, hq', hi, HE⟩ := hrel
    by_cases hlt : i < d.length
    · obtain ⟨g, rfl, hcell⟩ := HC.out i hlt
      have hStep := numberStep_any q hq hq' d[i]
      have hWh := jwhole_any q hq hq'
      unfold stepZ stepZC at hStep
      cases hs : stepC q (cls d[i]) with
      | some r =>
        rw [hs] at hStep
        obtain ⟨hr, hr'⟩ := stepC_range hs
        have HE2 := Hid.mk' (HE.out.trans (numRun_some hlt hs))
        have hS2 : ∀ W, Calls Tryd.prog 15 #[.int .i64 q, .int .u8 d[i].toNat] W fun e w' => e = .returned (.int .i64 (r : Int)) ∧ w' = W := hStep
        clear hs hStep hWh
        go_wp2_with (go_at_call 15; refine (hS2 _).mono ?_; rintro e w' ⟨rfl, rfl⟩)
        go_round
        case rel => exact ⟨r, i + 1, rfl, by go_num, hr, hr', hlt, HE2⟩
        case measure => simp [intOf]; omega
      | none =>
        rw [hs] at hStep
        have hA := HA2.out i q hlt (HE.out.trans (numRun_none hlt hs))
        subst hA
        have hS2 : ∀ W, Calls Tryd.prog 15 #[.int .i64 q, .int .u8 d[i].toNat] W fun e w' => e = .returned (.int .i64 (-1)) ∧ w' = W := hStep
        clear hs hStep HA1 HA2
        go_wp2_with (first | (go_at_call 15; refine (hS2 _).mono ?_; rintro e w' ⟨rfl, rfl⟩) | (go_at_call 16; refine (hWh _).mono ?_; rintro e w' ⟨rfl, rfl⟩))
        refine bodyPost_ret (results_tmp7 rfl _ _ _) rfl ?_
        exact ⟨rfl, rfl⟩
    · have hie : i = d.length := by omega
      subst hie
      have hA := HA1.out q (HE.out.trans (numRun_nil (Nat.le_refl _)))
      subst hA
      clear HA1 HA2
      go_wp2
      refine bodyPost_ret (results_tmp7 rfl _ _ _) rfl ?_
      exact ⟨rfl, rfl⟩

set_option maxRecDepth 100000 in
theorem model_none (a : Option Addr) (n c : Nat) (l : Bool) (h num : Nat) (lit : ByteArray) (w : World) :
    Calls Tryd.prog 7 #[.string ByteArray.empty, .bool l, .int .i64 h, .int .i64 num, .string lit, .slice a n c] w fun e w' =>
      e = .returned (Ans.val7 ⟨0, true, ByteArray.empty, l, h, num, lit⟩) ∧ w' = w := by
  go_enter Tryd.func7, Tryd.ntmps7
  go_wp2
  refine bodyPost_ret (results_tmp7 rfl _ _ _) rfl ?_
  exact ⟨rfl, rfl⟩
end Go.Proofs.Qxb6616667aDoor
