import Derived.Test.Qxb6616667aDoorX1
namespace Go.Proofs.Qxb6616667aDoor
open Go.RowKit

def boolNat : Value → Nat | .bool true => 1 | _ => 0

set_option maxHeartbeats 1600000 in
set_option maxRecDepth 100000 in
theorem text_any (B : Nat) (a : Option Addr) (d : List UInt8) (c h0 : Nat) (l0 : Bool) (num : Int) (lit : ByteArray) (w : World)
    (hS : Scan B ByteArray.empty l0 h0 num lit w) (hC : Chk B w a d) (hT : TabB B w) (hm : d.length ≤ 1048576) (hdc : d.length ≤ c) (hcm : c ≤ 1152921504606846976) (hh : h0 ≤ 4) :
    Calls Tryd.prog 20 #[.pointer (some ⟨B, 0, none⟩), .slice a d.length c, .int .i64 0] w fun e w' =>
      e = .returned (.tuple #[.int .i64 (strM d l0 h0 l0 h0 0).pos, .bool (strM d l0 h0 l0 h0 0).ok]) ∧ Below B w w' ∧ TextAfter B num lit (strM d l0 h0 l0 h0 0) w' := by
  have HS := Hid.mk' hS
  have HC := Hid.mk' hC
  have HT := Hid.mk' hT
  have c6 := hS.c6
  have c7 := hS.c7
  clear hC hT hS
  generalize hE : strM d l0 h0 l0 h0 0 = R
  have HE := Hid.mk' hE
  clear hE
  go_enter Tryd.func20, Tryd.ntmps20
  go_upto_region 2 with fail
  go_cut [19] (fun v wx => wx = w ∧ v = .bool (l0 || decide (0 < h0)))
  case first =>
    cases l0 with
    | true =>
      go_wp2_with fail
      go_meet
      exact ⟨rfl, rfl⟩
    | false =>
      go_wp2_with fail
      go_meet
      exact ⟨rfl, by simp⟩
  case rest =>
    obtain ⟨hwc, rfl⟩ := hcut
    replace hwc := hwc.symm
    subst hwc
    go_upto_if 19 with fail
    go_cut [2, 8] (fun vi vok wx => ∃ (i : Nat) (ok : Bool), vi = .int .i64 i ∧ vok = .bool ok ∧ Below B w wx ∧ Hid (AtHead B ByteArray.empty num lit d R i ok wx))
    case first =>
      have hesc := fun lf => Hid.mk' (escape_any B a d c 0 h0 lf ByteArray.empty l0 num lit w HS.out HC.out (Nat.zero_le _) hm hh)
      cases hl : (l0 || decide (0 < h0)) with
      | true =>
        have hesc := hesc l0
        have hd := Hid.mk' (fun (w' : World) (hA : EscAfter B ByteArray.empty l0 h0 num lit (escM (d.drop 0) l0 h0 0) w') => head_of_esc (Nat.zero_le _) hh hA rfl rfl HE.out)
        generalize escM (d.drop 0) l0 h0 0 = E at hesc hd
        go_wp2_with (go_at_call 25; refine hesc.out.mono ?_; rintro e w2 ⟨rfl, hb2, hA2⟩; have HA2 := Hid.mk' (hd.out _ hA2); clear hA2)
        go_meet
        exact ⟨_, _, rfl, rfl, hb2, HA2⟩
      | false =>
        go_wp2_with fail
        go_meet
        rw [Bool.or_eq_false_iff, decide_eq_false_iff_not] at hl
        obtain ⟨rfl, h0'⟩ := hl
        obtain rfl : h0 = 0 := by omega
        exact ⟨0, true, rfl, rfl, Below.refl _ _, Nat.zero_le _, Or.inl ⟨rfl, false, 0, HS.out, by omega, fun _ => ⟨rfl, rfl⟩, HE.out⟩⟩
    case rest =>
      obtain ⟨i1, ok1, rfl, rfl, hb1, hA1⟩ := hcut
      go_wp2
      go_loopw [2, 8] (fun vi vok wr => ∃ (i : Nat) (ok : Bool), vi = .int .i64 i ∧ vok = .bool ok ∧ Below B w wr ∧ Hid (AtHead B ByteArray.empty num lit d R i ok wr)) (fun vi vok _ => 2 * (d.length - (intOf vi).toNat) + boolNat vok)
      case atStart => exact ⟨i1, ok1, rfl, rfl, hb1, hA1⟩
      case round =>
        obtain ⟨i, ok, rfl, rfl, hb, HA⟩ := hrel
        obtain ⟨hi, hA⟩ := HA.out
        cases ok with
        | false =>
          rcases hA with ⟨h, _⟩ | ⟨_, l, h, hS2, hR⟩
          · cases h
          · have HS2 := Hid.mk' hS2
            have HR := Hid.mk' hR
            clear hS2 hR HA
            go_wp2_with fail
            go_ret2
            rw [← HR.out]
            exact ⟨rfl, hb, HS2.out⟩
        | true =>
          rcases hA with ⟨_, l, h, hS2, hh2, hpl, hR⟩ | ⟨h, _⟩
          · have HS2 := Hid.mk' hS2
            have HR := Hid.mk' hR
            have Hpl := Hid.mk' hpl
            have hBs := hS2.lt
            clear hS2 hR HA hpl
            have hst := Hid.mk' (stringStop_any a d c i true wr (HC.out.below hb).chunk (HT.out.below hb).2 hdc hcm (by omega))
            have hle := stopAt_le true hi
            have hhit := Hid.mk' (fun (hz : stopAt true d i < d.length) => stopAt_hit hz)
            have hstp := Hid.mk' (str_stop (d := d) (i := i))
            have hend := Hid.mk' (fun (hz : d.length ≤ i) => stop_end (ctl := true) hz)
            generalize stopAt true d i = j at hst hle hhit hstp hend
            obtain ⟨hij, hj⟩ := hle
            by_cases hjl : j < d.length
            · have hil : i < d.length := by omega
              obtain ⟨rfl, rfl⟩ := Hpl.out hil
              have hR2 := hstp.out.symm.trans HR.out
              rw [drop_cons hjl] at hR2
              obtain ⟨g, hg, rfl, hcell⟩ := (HC.out.below hb).get hjl
              have hgl : g < wr.heap.size := by omega
              have hesc := Hid.mk' (fun (W : World) (hS3 : Scan B ByteArray.empty false (0 : Nat) num lit W) (hC3 : Chk B W (some ⟨g, 0, none⟩) d) => escape_any B (some ⟨g, 0, none⟩) d c (j + 1) 0 true ByteArray.empty false num lit W hS3 hC3 hjl hm (Nat.zero_le _))
              have hp := hhit.out hjl
              clear hhit hstp hend
              rcases stop_cases hp with h1 | ⟨h1, h2⟩ | ⟨h1, h2, _, h3⟩
              · have h34 : d[j] = 34 := UInt8.toNat_inj.1 (by have : (d[j].toNat : Int) = 34 := by simpa using h1
                                                              show d[j].toNat = 34; omega)
                rw [strM, if_neg Bool.false_ne_true, if_neg (Nat.lt_irrefl 0), if_pos h34] at hR2
                have HR2 := Hid.mk' hR2
                clear hR2 hp h34 hesc
                go_wp2_with (go_at_call 23; refine hst.out.mono ?_; rintro e w2 ⟨rfl, hb2⟩; have HS3 := Hid.mk' (HS2.out.below hBs hb2); have hc2 := (hb2.cell (p := ⟨g, j, none⟩) hgl).trans hcell)
                go_ret2
                rw [← HR2.out]
                exact ⟨by simp, hb.trans (hb2.mono (Nat.le_of_lt hBs)), HS3.out⟩
              · have h92 : d[j] = 92 := UInt8.toNat_inj.1 (by have : (d[j].toNat : Int) = 92 := by simpa using h2
                                                              show d[j].toNat = 92; omega)
                rw [strM, if_neg Bool.false_ne_true, if_neg (Nat.lt_irrefl 0), if_neg (by rw [h92]; decide), if_pos h92] at hR2
                have hd := Hid.mk' (fun (w' : World) (hA : EscAfter B ByteArray.empty false (0 : Nat) num lit (escM (d.drop (j + 1)) true 0 (j + 1)) w') => head_of_esc (sl := false) (sh := 0) (show j + 1 ≤ d.length from hjl) (Nat.zero_le 4) hA rfl rfl hR2)
                have hge := (escM_ge (d.drop (j + 1)) true 0 (j + 1)).1
                clear hR2 hp h92
                generalize escM (d.drop (j + 1)) true 0 (j + 1) = E at hesc hd hge
                go_wp2_with (first | (go_at_call 23; refine hst.out.mono ?_; rintro e w2 ⟨rfl, hb2⟩; have HS3 := Hid.mk' (HS2.out.below hBs hb2); have hc2 := (hb2.cell (p := ⟨g, j, none⟩) hgl).trans hcell; have hesc2 := Hid.mk' (hesc.out _ HS3.out ((HC.out.below hb).below (hb2.mono (Nat.le_of_lt hBs))))) | (go_at_call 25; refine hesc2.out.mono ?_; rintro e w3 ⟨rfl, hb3, hA3⟩; have HA3 := Hid.mk' (hd.out _ hA3); clear hA3))
                go_roundw
                case rel => exact ⟨E.pos, E.ok, rfl, rfl, (hb.trans (hb2.mono (Nat.le_of_lt hBs))).trans hb3, HA3⟩
                case measure => cases E.ok <;> simp [intOf, boolNat] <;> omega
              · have n34 : ¬ d[j] = 34 := fun e => by rw [e] at h3; exact absurd h3 (by decide)
                have n92 : ¬ d[j] = 92 := fun e => by rw [e] at h3; exact absurd h3 (by decide)
                rw [strM, if_neg Bool.false_ne_true, if_neg (Nat.lt_irrefl 0), if_neg n34, if_neg n92, if_pos h3] at hR2
                have HR2 := Hid.mk' hR2
                clear hR2 hp n34 n92 hesc
                go_wp2_with (go_at_call 23; refine hst.out.mono ?_; rintro e w2 ⟨rfl, hb2⟩; have HS3 := Hid.mk' (HS2.out.below hBs hb2); have hc2 := (hb2.cell (p := ⟨g, j, none⟩) hgl).trans hcell)
                go_roundw
                case rel => exact ⟨j, false, rfl, rfl, hb.trans (hb2.mono (Nat.le_of_lt hBs)), hj, Or.inr ⟨rfl, false, 0, HS3.out, HR2.out⟩⟩
                case measure => simp [intOf, boolNat]; omega
            · have hj' : j = d.length := by omega
              subst hj'
              have HR2 : Hid ((⟨d.length, true, true, l, h⟩ : SR) = R) := by
                by_cases hil : i < d.length
                · obtain ⟨rfl, rfl⟩ := Hpl.out hil
                  have := hstp.out.symm.trans HR.out
                  rw [List.drop_of_length_le (Nat.le_refl _)] at this
                  exact this
                · have hie : i = d.length := by omega
                  have := HR.out
                  rw [hie, List.drop_of_length_le (Nat.le_refl _)] at this
                  exact this
              clear hjl hhit hstp hend
              go_wp2_with (go_at_call 23; refine hst.out.mono ?_; rintro e w2 ⟨rfl, hb2⟩; have HS3 := Hid.mk' (HS2.out.below hBs hb2); have k5 := HS3.out.c5; have k5f := HS3.out.f5)
              go_ret2
              rw [← HR2.out]
              exact ⟨rfl, (hb.trans (hb2.mono (Nat.le_of_lt hBs))).setCell (p := ⟨B, 5, none⟩) (Nat.le_refl B) _, HS3.out.set_cut sString⟩
          · cases h
end Go.Proofs.Qxb6616667aDoor
