import Derived.Test.Qxb6616667aDoorE1
import Derived.Deep.CutRange
import Derived.Deep.DeepCutAuto
namespace Go.Proofs.Qxb6616667aDoor
open Go.RowKit

theorem hexM_end {d : List UInt8} {i : Nat} (h : Nat) (hi : d.length ≤ i) : hexM (d.drop i) h i = ⟨i, true, false, h⟩ := by
  rw [List.drop_of_length_le hi]; rfl
theorem hexM_none {d : List UInt8} {i : Nat} : hexM (d.drop i) 0 i = ⟨i, true, false, 0⟩ := by
  cases d.drop i <;> simp [hexM]
theorem hexM_yes {d : List UInt8} {i h : Nat} (hi : i < d.length) (h0 : 0 < h) (hb : hexB d[i] = true) : hexM (d.drop i) h i = hexM (d.drop (i + 1)) (h - 1) (i + 1) := by
  rw [drop_cons hi, hexM, if_pos h0, if_pos hb]
theorem hexM_no {d : List UInt8} {i h : Nat} (hi : i < d.length) (h0 : 0 < h) (hb : hexB d[i] = false) : hexM (d.drop i) h i = ⟨i, false, false, 0⟩ := by
  rw [drop_cons hi, hexM, if_pos h0, if_neg (by rw [hb]; exact Bool.false_ne_true)]
theorem hexB_cases (b : UInt8) : (hexB b = true ∧ ((48 ≤ b.toNat ∧ b.toNat ≤ 57) ∨ (97 ≤ b.toNat ∧ b.toNat ≤ 102) ∨ (65 ≤ b.toNat ∧ b.toNat ≤ 70))) ∨
    (hexB b = false ∧ (b.toNat < 48 ∨ (58 ≤ b.toNat ∧ b.toNat < 65) ∨ (71 ≤ b.toNat ∧ b.toNat < 97) ∨ 103 ≤ b.toNat)) := by
  unfold hexB
  by_cases h : (48 ≤ b.toNat ∧ b.toNat ≤ 57) ∨ (97 ≤ b.toNat ∧ b.toNat ≤ 102) ∨ (65 ≤ b.toNat ∧ b.toNat ≤ 70)
  · refine Or.inl ⟨?_, h⟩
    simp only [Bool.or_eq_true, decide_eq_true_eq]; omega
  · refine Or.inr ⟨?_, by omega⟩
    simp only [Bool.or_eq_false_iff, decide_eq_false_iff_not]; omega

theorem sim_cases {b : UInt8} (h : simB b = true) : b.toNat = 34 ∨ b.toNat = 92 ∨ b.toNat = 47 ∨ b.toNat = 98 ∨ b.toNat = 102 ∨ b.toNat = 110 ∨ b.toNat = 114 ∨ b.toNat = 116 := by
  simp only [simB, simN, Bool.or_eq_true, beq_iff_eq] at h
  omega
theorem beq_no {n k : Nat} (h : ¬ n = k) : ((n : Int) == (k : Int)) = false := by
  have : ¬ (n : Int) = (k : Int) := by omega
  simpa using this
theorem sim_not {b : UInt8} (h : simB b = false) : ((b.toNat : Int) == 34) = false ∧ ((b.toNat : Int) == 92) = false ∧ ((b.toNat : Int) == 47) = false ∧ ((b.toNat : Int) == 98) = false ∧ ((b.toNat : Int) == 102) = false ∧ ((b.toNat : Int) == 110) = false ∧ ((b.toNat : Int) == 114) = false ∧ ((b.toNat : Int) == 116) = false := by
  simp only [simB, simN, Bool.or_eq_false_iff, beq_eq_false_iff_ne, ne_eq] at h
  exact ⟨beq_no (k := 34) (by omega), beq_no (k := 92) (by omega), beq_no (k := 47) (by omega), beq_no (k := 98) (by omega), beq_no (k := 102) (by omega), beq_no (k := 110) (by omega), beq_no (k := 114) (by omega), beq_no (k := 116) (by omega)⟩

/-- The scan behind escape. -/
def EscAfter (B : Nat) (cut : ByteArray) (l : Bool) (h : Int) (num : Int) (lit : ByteArray) (E : ER) (w : World) : Prop :=
  if E.ok = true then Scan B cut E.l E.h num lit w else Scan B cut l h num lit w

theorem dle {n k : Nat} (h : n ≤ k) : decide ((n : Int) ≤ (k : Int)) = true := by rw [decide_eq_true_iff]; omega
theorem dnle {n k : Nat} (h : k < n) : decide ((n : Int) ≤ (k : Int)) = false := by rw [decide_eq_false_iff_not]; omega

set_option maxHeartbeats 1600000 in
set_option maxRecDepth 100000 in
theorem escape_any (B : Nat) (a : Option Addr) (d : List UInt8) (c i0 h0 : Nat) (lf : Bool) (cut : ByteArray) (l : Bool) (num : Int) (lit : ByteArray) (w : World)
    (hS : Scan B cut l h0 num lit w) (hC : Chk B w a d) (hi : i0 ≤ d.length) (hm : d.length ≤ 1048576) (hh : h0 ≤ 4) :
    Calls Tryd.prog 25 #[.pointer (some ⟨B, 0, none⟩), .slice a d.length c, .int .i64 i0, .bool lf] w fun e w' =>
      e = .returned (.tuple #[.int .i64 (escM (d.drop i0) lf h0 i0).pos, .bool (escM (d.drop i0) lf h0 i0).ok]) ∧ Below B w w' ∧
        EscAfter B cut l h0 num lit (escM (d.drop i0) lf h0 i0) w' := by
  have HS := Hid.mk' hS
  have HC := Hid.mk' hC
  obtain ⟨c5, c6, c7, c8, c9, f5, f6, f7, f8, f9⟩ := hS
  clear hC
  generalize hE : escM (d.drop i0) lf h0 i0 = E
  have HE := Hid.mk' hE
  clear hE
  go_enter Tryd.func25, Tryd.ntmps25
  go_upto_if 16 with fail
  go_cut [2, 10] (fun vi vh wx => wx = w ∧ ∃ i h : Nat, vi = .int .i64 i ∧ vh = .int .i64 h ∧ i ≤ d.length ∧ h ≤ 4 ∧ Hid (hexM (d.drop i) h i = E))
  case first =>
    cases lf with
    | false =>
      go_wp2_with fail
      go_meet
      exact ⟨rfl, i0, h0, rfl, rfl, hi, hh, HE⟩
    | true =>
      by_cases hlt : i0 < d.length
      · obtain ⟨g, hg, rfl, hcell⟩ := HC.out.get hlt
        have hd := Hid.mk' (drop_cons hlt)
        have he := HE.out
        rw [hd.out] at he
        simp only [escM] at he
        by_cases hu : d[i0].toNat = 117
        · have hu' : d[i0] = 117 := UInt8.toNat_inj.1 hu
          rw [if_pos hu'] at he
          have HE' := Hid.mk' he
          rw [hu] at hcell
          clear he hu hu'
          go_wp2_with fail
          go_meet
          exact ⟨rfl, i0 + 1, 4, by go_num, rfl, hlt, by omega, HE'⟩
        · have hu' : ¬ d[i0] = 117 := fun e => hu (by rw [e]; rfl)
          rw [if_neg hu'] at he
          have bu : ((d[i0].toNat : Int) == 117) = false := by
            have : ¬ (d[i0].toNat : Int) = 117 := by omega
            simpa using this
          cases hs : simB d[i0] with
          | true =>
            rw [if_pos hs] at he
            have HE' := Hid.mk' he
            clear he hu hu'
            rcases sim_cases hs with hv | hv | hv | hv | hv | hv | hv | hv
            all_goals
              rw [hv] at hcell
              clear hs hv bu
              go_wp2_with fail
              go_meet
              exact ⟨rfl, i0 + 1, h0, by go_num, rfl, hlt, hh, HE'⟩
          | false =>
            rw [if_neg (by rw [hs]; exact Bool.false_ne_true)] at he
            have HE' := Hid.mk' he
            obtain ⟨e1, e2, e3, e4, e5, e6, e7, e8⟩ := sim_not hs
            clear he hu hu' hs
            go_wp2_with fail
            go_ret2
            rw [← HE'.out]
            exact ⟨rfl, Below.refl _ _, HS.out⟩
      · have hE : i0 = d.length := by omega
        have he := HE.out
        rw [List.drop_of_length_le (by omega)] at he
        have HE' := Hid.mk' he
        subst hE
        clear he
        go_wp2_with fail
        go_ret2
        rw [← HE'.out]
        exact ⟨rfl, (Below.refl B w).setCell (p := ⟨B, 6, none⟩) (Nat.le_refl B) _, HS.out.set_l true⟩
  case rest =>
    obtain ⟨rfl, i1, h1, rfl, rfl, hi1, hh1, HE1⟩ := hcut
    go_wp2
    go_loop [2, 10, 11] (fun vi vh _ => ∃ i h : Nat, vi = .int .i64 i ∧ vh = .int .i64 h ∧ i ≤ d.length ∧ h ≤ 4 ∧ Hid (hexM (d.drop i) h i = E)) (fun vi _ _ => d.length - (intOf vi).toNat)
    case atStart => exact ⟨i1, h1, rfl, rfl, hi1, hh1, HE1⟩
    case round =>
      obtain ⟨i, h, rfl, rfl, hi2, hh2, HE2⟩ := hrel
      by_cases hlt : i < d.length
      · by_cases hp : 0 < h
        · obtain ⟨g, hg, rfl, hcell⟩ := HC.out.get hlt
          have hyes := Hid.mk' (hexM_yes (h := h) hlt hp)
          have hno := Hid.mk' (hexM_no (h := h) hlt hp)
          rcases hexB_cases d[i] with ⟨hb, hr⟩ | ⟨hb, hr⟩
          · have HE3 := Hid.mk' ((hyes.out hb).symm.trans HE2.out)
            clear hyes hno hb
            have hw : ((h : Int) - 1) = ((h - 1 : Nat) : Int) := by omega
            rcases hr with ⟨hr, hr'⟩ | ⟨hr, hr'⟩ | ⟨hr, hr'⟩
            · have k1 : decide ((d[i].toNat : Int) ≤ 57) = true := dle (k := 57) hr'
              go_wp2_with fail
              go_round
              case rel => exact ⟨i + 1, h - 1, by go_num, by go_num, by omega, by omega, HE3.out⟩
              case measure => simp [intOf]; omega
            · have k1 : decide ((d[i].toNat : Int) ≤ 57) = false := dnle (k := 57) (show 57 < d[i].toNat by omega)
              have k2 : decide ((d[i].toNat : Int) ≤ 102) = true := dle (k := 102) hr'
              go_wp2_with fail
              go_round
              case rel => exact ⟨i + 1, h - 1, by go_num, by go_num, by omega, by omega, HE3.out⟩
              case measure => simp [intOf]; omega
            · have k1 : decide ((d[i].toNat : Int) ≤ 57) = false := dnle (k := 57) (show 57 < d[i].toNat by omega)
              have k2 : decide ((d[i].toNat : Int) ≤ 70) = true := dle (k := 70) hr'
              go_wp2_with fail
              go_round
              case rel => exact ⟨i + 1, h - 1, by go_num, by go_num, by omega, by omega, HE3.out⟩
              case measure => simp [intOf]; omega
          · have HE3 := Hid.mk' ((hno.out hb).symm.trans HE2.out)
            clear hyes hno hb
            rcases hr with hr | ⟨hr, hr'⟩ | ⟨hr, hr'⟩ | hr
            · go_wp2_with fail
              go_ret2
              rw [← HE3.out]
              exact ⟨rfl, Below.refl _ _, HS.out⟩
            · have k1 : decide ((d[i].toNat : Int) ≤ 57) = false := dnle (k := 57) (show 57 < d[i].toNat by omega)
              go_wp2_with fail
              go_ret2
              rw [← HE3.out]
              exact ⟨rfl, Below.refl _ _, HS.out⟩
            · have k1 : decide ((d[i].toNat : Int) ≤ 57) = false := dnle (k := 57) (show 57 < d[i].toNat by omega)
              have k2 : decide ((d[i].toNat : Int) ≤ 70) = false := dnle (k := 70) (show 70 < d[i].toNat by omega)
              go_wp2_with fail
              go_ret2
              rw [← HE3.out]
              exact ⟨rfl, Below.refl _ _, HS.out⟩
            · have k1 : decide ((d[i].toNat : Int) ≤ 57) = false := dnle (k := 57) (show 57 < d[i].toNat by omega)
              have k2 : decide ((d[i].toNat : Int) ≤ 70) = false := dnle (k := 70) (show 70 < d[i].toNat by omega)
              have k3 : decide ((d[i].toNat : Int) ≤ 102) = false := dnle (k := 102) (show 102 < d[i].toNat by omega)
              go_wp2_with fail
              go_ret2
              rw [← HE3.out]
              exact ⟨rfl, Below.refl _ _, HS.out⟩
        · have h0' : h = 0 := by omega
          subst h0'
          have HE3 := Hid.mk' (hexM_none.symm.trans HE2.out)
          go_wp2_with fail
          go_ret2
          rw [← HE3.out]
          exact ⟨rfl, ((Below.refl B wc).setCell (p := ⟨B, 6, none⟩) (Nat.le_refl B) _).setCell (p := ⟨B, 7, none⟩) (Nat.le_refl B) _, (HS.out.set_l false).set_h 0⟩
      · have HE3 := Hid.mk' ((hexM_end h (by omega)).symm.trans HE2.out)
        go_wp2_with fail
        all_goals
          go_ret2
          rw [← HE3.out]
          exact ⟨rfl, ((Below.refl B wc).setCell (p := ⟨B, 6, none⟩) (Nat.le_refl B) _).setCell (p := ⟨B, 7, none⟩) (Nat.le_refl B) _, (HS.out.set_l false).set_h h⟩
end Go.Proofs.Qxb6616667aDoor
