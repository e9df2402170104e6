import Derived.Test.Qxb6616667aDoorK1
import Derived.Outline
namespace Go.Proofs.Qxb6616667aDoor
open Go.RowKit

theorem stop_cases {ctl : Bool} {b : UInt8} (h : stopP ctl b = true) : (((b.toNat : Int) == 34) = true) ∨ (((b.toNat : Int) == 34) = false ∧ ((b.toNat : Int) == 92) = true) ∨ (((b.toNat : Int) == 34) = false ∧ ((b.toNat : Int) == 92) = false ∧ ctl = true ∧ b.toNat < 32) := by
  by_cases h1 : b.toNat = 34
  · exact Or.inl (by rw [h1]; rfl)
  · have e1 : ((b.toNat : Int) == 34) = false := by have : ¬ (b.toNat : Int) = 34 := by omega
                                                    simpa using this
    by_cases h2 : b.toNat = 92
    · exact Or.inr (Or.inl ⟨e1, by rw [h2]; rfl⟩)
    · have e2 : ((b.toNat : Int) == 92) = false := by have : ¬ (b.toNat : Int) = 92 := by omega
                                                      simpa using this
      refine Or.inr (Or.inr ⟨e1, e2, ?_⟩)
      simp only [stopP, Bool.or_eq_true, Bool.and_eq_true, beq_iff_eq, decide_eq_true_eq] at h
      rcases h with (rfl | rfl) | h
      · exact absurd rfl h1
      · exact absurd rfl h2
      · exact h
theorem stop_not {ctl : Bool} {b : UInt8} (h : stopP ctl b = false) : ((b.toNat : Int) == 34) = false ∧ ((b.toNat : Int) == 92) = false ∧ (ctl = false ∨ (ctl = true ∧ 32 ≤ b.toNat)) := by
  simp only [stopP, Bool.or_eq_false_iff, Bool.and_eq_false_iff, beq_eq_false_iff_ne, ne_eq, decide_eq_false_iff_not] at h
  obtain ⟨⟨h1, h2⟩, h3⟩ := h
  have n1 : ¬ b.toNat = 34 := fun e => h1 (UInt8.toNat_inj.1 e)
  have n2 : ¬ b.toNat = 92 := fun e => h2 (UInt8.toNat_inj.1 e)
  refine ⟨?_, ?_, ?_⟩
  · have : ¬ (b.toNat : Int) = 34 := by omega
    simpa using this
  · have : ¬ (b.toNat : Int) = 92 := by omega
    simpa using this
  · cases ctl with
    | false => exact Or.inl rfl
    | true => exact Or.inr ⟨rfl, by rcases h3 with h3 | h3 <;> simp_all⟩

set_option maxHeartbeats 1600000 in
set_option maxRecDepth 100000 in
theorem stringStop_any (a : Option Addr) (d : List UInt8) (c f0 : Nat) (ctl : Bool) (w : World) (hC : Chunk w a d) (hT : Tab w) (hdc : d.length ≤ c) (hcm : c ≤ 1152921504606846976) (hf0 : f0 ≤ 1152921504606846976) :
    Calls Tryd.prog 23 #[.slice a d.length c, .int .i64 f0, .bool ctl] w fun e w' => e = .returned (.int .i64 (stopAt ctl d f0)) ∧ Below w.heap.size w w' := by
  have HC := Hid.mk' hC
  have HT := Hid.mk' hT
  clear hC hT
  go_enter Tryd.func23, Tryd.ntmps23
  go_wp2
  go_loopw [1, 7, 8] (fun i _ _ wr => ∃ f : Nat, f0 ≤ f ∧ f ≤ 1152921504606846976 ∧ i = .int .i64 f ∧ Hid (stopAt ctl d f = stopAt ctl d f0) ∧ Below w.heap.size w wr) (fun i _ _ _ => d.length - (intOf i).toNat)
  case atStart => exact ⟨f0, Nat.le_refl _, hf0, rfl, rfl, Below.refl _ _⟩
  case round =>
    obtain ⟨f, hf, hfm, rfl, HE, hb⟩ := hrel
    by_cases h8 : f + 8 ≤ d.length
    · obtain ⟨g, hg, hcells⟩ := (HC.out.below hb).at (by intro e; rw [e] at h8; simp at h8)
      obtain ⟨b0, b1, b2, b3, b4, b5, b6, b7, hl8, hc8⟩ := eight h8
      have hU := Hid.mk' (fun (n c' : Nat) (hn : 8 ≤ n) (W : World) (hW : ∀ p, W.cell? p = wr.cell? p) => Tryd.binary_LE_Uint64 g f n c' b0 b1 b2 b3 b4 b5 b6 b7 W hn
        (by rw [hW]; exact (hc8 wr g hcells).1) (by rw [hW]; exact (hc8 wr g hcells).2.1) (by rw [hW]; exact (hc8 wr g hcells).2.2.1) (by rw [hW]; exact (hc8 wr g hcells).2.2.2.1) (by rw [hW]; exact (hc8 wr g hcells).2.2.2.2.1) (by rw [hW]; exact (hc8 wr g hcells).2.2.2.2.2.1) (by rw [hW]; exact (hc8 wr g hcells).2.2.2.2.2.2.1) (by rw [hW]; exact (hc8 wr g hcells).2.2.2.2.2.2.2))
      have HD := Hid.mk' hcells
      clear hcells hc8
      subst hg
      obtain ⟨x, y1, y2, v1, v2, v3, ex, hx, hy1, hy2, ey1, ey2, ev1, ev2, ev3, hv3, hS3, v4, v5, ev4, ev5, hv5, hS5⟩ := word [b0, b1, b2, b3, b4, b5, b6, b7] rfl
      rw [ex] at hU
      have hU := Hid.mk' (hU.out (d.length - f) (c - f) (by omega) wr.drew (fun _ => rfl))
      rw [← hl8] at hS3 hS5
      have hZ1 := zeroBytes_any y1 (hx := hy1)
      have hZ2 := zeroBytes_any y2 (hx := hy2)
      have hB := bytesBelow_any x (hx := hx)
      rw [ev1] at hZ1
      rw [ev2] at hZ2
      rw [ev4] at hB
      have h8' : ((d.drop f).take 8).length = 8 := by rw [hl8]; rfl
      have hd : Below wr.heap.size wr wr.drew := (Below.refl _ wr).drew
      have HTr := Hid.mk' (fun (W : World) (hW : Below wr.drew.heap.size wr.drew W) => ((HT.out.below hb).below (hd.trans hW)).2)
      have hcf : ¬ c = f := by omega
      cases ctl with
      | false =>
        have hh := Hid.mk' (word_hit h8' hS3)
        have hz := Tryd.bits_TrailingZeros64 v3 hv3
        have he8 := Hid.mk' (stop_eight_no (ctl := false) h8)
        have he8' := Hid.mk' (stop_eight_hit (ctl := false) h8)
        clear hS3 hS5 ev1 ev2 ev4 hv3 hv5 hy1 hy2 hx ex hl8 h8' hB ev5
        rcases hh.out with ⟨hv0, hf8⟩ | ⟨hv0, hf8, hct⟩
        · have he := Hid.mk' (he8.out hf8)
          subst hv0
          clear hf8 he8 he8' hh hz
          go_wp2
          go_region_with (go_at_call 28; refine hU.out.mono ?_; rintro e w2 ⟨rfl, hb2⟩)
          go_wp2_with (first | (go_at_call 29; first | (refine (hZ1 _).mono ?_; rintro e w' ⟨rfl, rfl⟩) | (refine (hZ2 _).mono ?_; rintro e w' ⟨rfl, rfl⟩)) | (go_at_call 31; refine (hz _ (fun _ => HTr.out _ (by assumption))).mono ?_; rintro e w' ⟨rfl, rfl⟩))
          all_goals
            go_roundw
            case rel => exact ⟨f + 8, by omega, by omega, by go_num, he.out.trans HE.out, hb.trans ((hd.trans hb2).mono hb.size)⟩
            case measure => simp [intOf]; omega
        · have he := Hid.mk' (he8'.out hf8)
          have hvb : ((v3 : Int) != 0) = true := by simpa using hv0
          generalize first (stopP false) (List.take 8 (List.drop f d)) = q at he hct hf8
          generalize Lib.ctz 64 v3 = t at hz hct
          have hq : ((t : Int).tdiv 8) = (q : Int) := by rw [Int.tdiv_eq_ediv_of_nonneg (by omega)]; omega
          have Hct := Hid.mk' hct
          clear he8 he8' hh hv0 hct
          go_wp2
          go_region_with (go_at_call 28; refine hU.out.mono ?_; rintro e w2 ⟨rfl, hb2⟩)
          go_wp2_with (first | (go_at_call 29; first | (refine (hZ1 _).mono ?_; rintro e w' ⟨rfl, rfl⟩) | (refine (hZ2 _).mono ?_; rintro e w' ⟨rfl, rfl⟩)) | (go_at_call 31; refine (hz _ (fun _ => HTr.out _ (by assumption))).mono ?_; rintro e w' ⟨rfl, rfl⟩))
          all_goals
            go_ret
            exact ⟨ret_int (by rw [← HE.out, he.out]; omega), hb.trans ((hd.trans hb2).mono hb.size)⟩
      | true =>
        have hh := Hid.mk' (word_hit h8' hS5)
        have hz := Tryd.bits_TrailingZeros64 v5 hv5
        have he8 := Hid.mk' (stop_eight_no (ctl := true) h8)
        have he8' := Hid.mk' (stop_eight_hit (ctl := true) h8)
        clear hS3 hS5 ev1 ev2 ev4 hv3 hv5 hy1 hy2 hx ex hl8 h8'
        rcases hh.out with ⟨hv0, hf8⟩ | ⟨hv0, hf8, hct⟩
        · have he := Hid.mk' (he8.out hf8)
          subst hv0
          clear hf8 he8 he8' hh hz
          go_wp2
          go_region_with (go_at_call 28; refine hU.out.mono ?_; rintro e w2 ⟨rfl, hb2⟩)
          go_wp2_with (first | (go_at_call 29; first | (refine (hZ1 _).mono ?_; rintro e w' ⟨rfl, rfl⟩) | (refine (hZ2 _).mono ?_; rintro e w' ⟨rfl, rfl⟩)) | (go_at_call 30; refine (hB _).mono ?_; rintro e w' ⟨rfl, rfl⟩) | (go_at_call 31; refine (hz _ (fun _ => HTr.out _ (by assumption))).mono ?_; rintro e w' ⟨rfl, rfl⟩))
          all_goals
            go_roundw
            case rel => exact ⟨f + 8, by omega, by omega, by go_num, he.out.trans HE.out, hb.trans ((hd.trans hb2).mono hb.size)⟩
            case measure => simp [intOf]; omega
        · have he := Hid.mk' (he8'.out hf8)
          have hvb : ((v5 : Int) != 0) = true := by simpa using hv0
          generalize first (stopP true) (List.take 8 (List.drop f d)) = q at he hct hf8
          generalize Lib.ctz 64 v5 = t at hz hct
          have hq : ((t : Int).tdiv 8) = (q : Int) := by rw [Int.tdiv_eq_ediv_of_nonneg (by omega)]; omega
          have Hct := Hid.mk' hct
          clear he8 he8' hh hv0 hct
          go_wp2
          go_region_with (go_at_call 28; refine hU.out.mono ?_; rintro e w2 ⟨rfl, hb2⟩)
          go_wp2_with (first | (go_at_call 29; first | (refine (hZ1 _).mono ?_; rintro e w' ⟨rfl, rfl⟩) | (refine (hZ2 _).mono ?_; rintro e w' ⟨rfl, rfl⟩)) | (go_at_call 30; refine (hB _).mono ?_; rintro e w' ⟨rfl, rfl⟩) | (go_at_call 31; refine (hz _ (fun _ => HTr.out _ (by assumption))).mono ?_; rintro e w' ⟨rfl, rfl⟩))
          all_goals
            go_ret
            exact ⟨ret_int (by rw [← HE.out, he.out]; omega), hb.trans ((hd.trans hb2).mono hb.size)⟩
    · go_wp2
      go_loopw [1, 9] (fun i _ w3 => ∃ f' : Nat, f' ≤ 1152921504606846976 ∧ i = .int .i64 f' ∧ Hid (stopAt ctl d f' = stopAt ctl d f0) ∧ w3 = wr) (fun i _ _ => d.length - (intOf i).toNat)
      case atStart => exact ⟨f, hfm, rfl, HE, rfl⟩
      case round =>
        obtain ⟨k, hkm, rfl, HE2, rfl⟩ := hrel
        by_cases hk : k < d.length
        · obtain ⟨g, hg, hcells⟩ := (HC.out.below hb).at (by intro e; rw [e] at hk; simp at hk)
          subst hg
          have hck := hcells k hk
          clear hcells
          have hhit := Hid.mk' (stop_hit (ctl := ctl) hk)
          have hstep := Hid.mk' (stop_step (ctl := ctl) hk)
          cases hp : stopP ctl d[k] with
          | true =>
            have hq := Hid.mk' (hhit.out hp)
            rcases stop_cases hp with h1 | ⟨h1, h2⟩ | ⟨h1, h2, rfl, h3⟩
            all_goals
              clear hp hhit hstep
              go_wp2
              go_ret
              exact ⟨ret_int (by rw [← HE2.out, hq.out]), hb⟩
          | false =>
            have hq := Hid.mk' (hstep.out hp)
            rcases stop_not hp with ⟨h1, h2, rfl | ⟨rfl, h3⟩⟩
            all_goals
              clear hp hhit hstep
              go_wp2
              go_roundw
              case rel => exact ⟨k + 1, by omega, by go_num, hq.out.trans HE2.out, trivial⟩
              case measure => simp [intOf]; omega
        · have hq := Hid.mk' (stop_end (ctl := ctl) (show d.length ≤ k by omega))
          go_wp2
          go_ret
          exact ⟨ret_int (by rw [← HE2.out, hq.out]), hb⟩
end Go.Proofs.Qxb6616667aDoor
