import Derived.Test.Qxb6616667aDoorH0
import Derived.Deep.LoopGhost
namespace Go.Proofs.Qxb6616667aDoor
open Go.RowKit

def cqV (r : Option Nat × Bool) : Value := .tuple #[.int .i64 (optZ r.1), .bool r.2]

theorem Chunk.take {w : World} {a : Option Addr} {d : List UInt8} (h : Chunk w a d) (m : Nat) : Chunk w a (d.take m) := by
  intro j hj
  rw [List.length_take] at hj
  obtain ⟨g, ha, hc⟩ := h j (by omega)
  exact ⟨g, ha, by rw [List.getElem_take]; exact hc⟩

/-- Q is the first quote at or after i, or the end. -/
def QuoteAt (d : List UInt8) (i Q : Nat) : Prop := i ≤ Q ∧ Q ≤ d.length ∧ (∀ k (hk : k < d.length), i ≤ k → k < Q → ¬ d[k] = 34) ∧ ∀ h : Q < d.length, d[Q] = 34

theorem idx_zero (a : Addr) (c : Nat) (b : Int) (w : World) : Calls Tryd.prog 24 #[.slice (some a) 0 c, .int .u8 b] w fun r w' => r = .returned (.int .i64 (-1)) ∧ w' = w :=
  Tryd.bytes_IndexByte_at a 0 c [] b w rfl (fun i hi => absurd hi (Nat.not_lt_zero i))

/-- Where stringStop stops in the first m bytes. -/
theorem stop_short {d : List UInt8} {m i : Nat} (hm : m ≤ d.length) (hi : i ≤ d.length) : ∃ j, stopAt false (d.take m) i = j ∧ i ≤ j ∧ j ≤ d.length ∧ (m ≤ i → j = i) ∧ cqM (d.drop i) i = cqM (d.drop j) j ∧ ∀ h : j < m, stopP false (d[j]'(by omega)) = true := by
  have hl : (d.take m).length = m := by rw [List.length_take]; omega
  refine ⟨_, rfl, ?_⟩
  by_cases him : i < m
  · have hle := stopAt_le false (d := d.take m) (i := i) (by omega)
    rw [hl] at hle
    refine ⟨hle.1, by omega, fun h => by omega, cq_to hle.1 (by omega) (fun k hk h1 h2 => ?_), fun h => ?_⟩
    · have := stop_between (d := d.take m) (i := i) (k := k) (by omega) h1 h2
      rwa [List.getElem_take] at this
    · have := stopAt_hit (ctl := false) (d := d.take m) (i := i) (by omega)
      rwa [List.getElem_take] at this
  · have e := stop_end (ctl := false) (d := d.take m) (f := i) (by omega)
    rw [e]
    exact ⟨Nat.le_refl _, hi, fun _ => rfl, rfl, fun h => by omega⟩

set_option maxHeartbeats 1600000 in
set_option maxRecDepth 100000 in
theorem close_some (g : Nat) (d : List UInt8) (i0 : Nat) (w : World) (hC : Chunk w (some ⟨g, 0, none⟩) d) (hT : Tab w) (hd : 0 < d.length) (hm : d.length ≤ 1048576) (hi0 : i0 ≤ d.length) :
    Calls Tryd.prog 18 #[.slice (some ⟨g, 0, none⟩) d.length d.length, .int .i64 i0] w fun e w' =>
      e = .returned (cqV (cqM (d.drop i0) i0)) ∧ Below w.heap.size w w' := by
  have HC := Hid.mk' hC
  have HT := Hid.mk' hT
  clear hC hT
  generalize hR : cqM (d.drop i0) i0 = R
  have HR := Hid.mk' hR
  clear hR
  go_enter Tryd.func18, Tryd.ntmps18
  go_upto_region 1 with fail
  go_cut [6] (fun v wx => wx = w ∧ ∃ m : Nat, v = .slice (some ⟨g, 0, none⟩) m d.length ∧ m ≤ d.length ∧ 0 < m)
  case first =>
    go_wp2_with fail
    go_meet
    exact ⟨rfl, _, rfl, by omega, by omega⟩
  obtain ⟨hwc, m, rfl, hm1, hm2⟩ := hcut
  replace hwc := hwc.symm
  subst hwc
  have hlm : (d.take m).length = m := by rw [List.length_take]; omega
  have HST := Hid.mk' (fun (i : Nat) (wr : World) (hb : Below w.heap.size w wr) (hi : i ≤ d.length) => hlm ▸ stringStop_any (some ⟨g, 0, none⟩) (d.take m) d.length i false wr ((HC.out.below hb).take m) (HT.out.below hb) (by omega) (by omega) (by omega))
  clear hlm
  go_wp2
  go_loopw [1] (fun vi wr => ∃ i : Nat, vi = .int .i64 i ∧ i ≤ d.length ∧ Below w.heap.size w wr ∧ Hid (cqM (d.drop i) i = R)) (fun vi _ => d.length - (intOf vi).toNat)
  case atStart => exact ⟨i0, rfl, hi0, Below.refl _ _, HR⟩
  case round =>
    obtain ⟨i, rfl, hi, hb, HE⟩ := hrel
    have hst := HST.out i wr hb hi
    obtain ⟨j, ej, hij, hj, _, hcq, hhit⟩ := stop_short hm1 hi
    rw [ej] at hst
    have Hst := Hid.mk' hst
    have HE2 := Hid.mk' (hcq.symm.trans HE.out)
    have Hhit := Hid.mk' hhit
    clear hst ej hcq hhit
    by_cases hjm : j < m
    · have hjd : j < d.length := by omega
      obtain ⟨g', hg', hcell⟩ := (HC.out.below hb) j hjd
      obtain rfl : g = g' := by injection hg' with hg'; injection hg'
      clear hg'
      have hgl : g < wr.heap.size := World.block_lt_of_cell? wr _ hcell
      have hR2 := HE2.out
      rw [drop_cons hjd] at hR2
      rcases stop_cases (Hhit.out hjm) with h1 | ⟨h1, h2⟩ | ⟨_, _, h3, _⟩
      · have h34 : d[j] = 34 := UInt8.toNat_inj.1 (by have : (d[j].toNat : Int) = 34 := by simpa using h1
                                                      show d[j].toNat = 34; omega)
        rw [h34, cqM_quote] at hR2
        subst hR2
        clear h34
        go_wp2_with (go_at_call 23; refine Hst.out.mono ?_; rintro e w2 ⟨rfl, hb2⟩; have hc2 := (hb2.cell (p := ⟨g, j, none⟩) hgl).trans hcell)
        go_ret2
        exact ⟨rfl, hb.trans (hb2.mono hb.size)⟩
      · have h92 : d[j] = 92 := UInt8.toNat_inj.1 (by have : (d[j].toNat : Int) = 92 := by simpa using h2
                                                      show d[j].toNat = 92; omega)
        rw [h92] at hR2
        by_cases hj1 : j + 1 < d.length
        · rw [drop_cons hj1, cqM_slash] at hR2
          have HR2 := Hid.mk' hR2
          clear h92 hR2
          go_wp2_with (go_at_call 23; refine Hst.out.mono ?_; rintro e w2 ⟨rfl, hb2⟩; have hc2 := (hb2.cell (p := ⟨g, j, none⟩) hgl).trans hcell)
          go_roundw
          case rel => exact ⟨j + 2, by go_num, by omega, hb.trans (hb2.mono hb.size), HR2⟩
          case measure => simp [intOf]; omega
        · rw [List.drop_of_length_le (show d.length ≤ j + 1 by omega), cqM_last] at hR2
          subst hR2
          clear h92
          go_wp2_with (go_at_call 23; refine Hst.out.mono ?_; rintro e w2 ⟨rfl, hb2⟩; have hc2 := (hb2.cell (p := ⟨g, j, none⟩) hgl).trans hcell)
          go_ret2
          exact ⟨rfl, hb.trans (hb2.mono hb.size)⟩
      · cases h3
    · have hmj : m ≤ j := by omega
      have hmj2 : decide (m ≤ j) = true := by rw [decide_eq_true_iff]; exact hmj
      clear Hhit HE HST
      go_wp2_with (go_at_call 23; refine Hst.out.mono ?_; rintro e w2 ⟨rfl, hb2⟩)
      have hb3 := hb.trans (hb2.mono hb.size)
      have hcells : ∀ k (h : k < d.length), w2.cell? ⟨g, k, none⟩ = some (.int .u8 d[k].toNat) := by
        intro k hk
        obtain ⟨g', hg', hcell⟩ := (HC.out.below hb3) k hk
        obtain rfl : g = g' := by injection hg' with hg'; injection hg'
        exact hcell
      have HCell := Hid.mk' hcells
      clear hcells hjm Hst hb hb2
      go_loopg [1, 7, 8] (d.length + 1) (fun gf vi vq _ wx => wx = w2 ∧ ∃ (i : Nat) (z : Int), vi = .int .i64 i ∧ vq = .int .i64 z ∧ i ≤ d.length ∧ d.length + 1 ≤ gf + i ∧ -1 ≤ z ∧ z ≤ d.length ∧ Hid (z < i ∨ ∃ Q : Nat, z = (Q : Int) ∧ QuoteAt d i Q) ∧ Hid (cqM (d.drop i) i = R))
      case atStart => exact ⟨rfl, j, -1, rfl, rfl, hj, by omega, by omega, by omega, Or.inl (by omega), HE2⟩
      case round =>
        obtain ⟨hw3, i, z, rfl, rfl, hi, hgf, hz0, hz1, HQ, HE3⟩ := hrel
        replace hw3 := hw3.symm
        subst hw3
        go_upto_if 37 with fail
        go_cut [7] (fun v wx => wx = w2 ∧ ∃ Q : Nat, v = .int .i64 Q ∧ Hid (QuoteAt d i Q))
        case first =>
          by_cases hz : z < i
          · by_cases hil : i < d.length
            · have hI := idx_any g i d.length (d.length - i) d 34 w2 HCell.out hi (Nat.le_refl _)
              rcases idxZ_cases d i d.length 34 hi (Nat.le_refl _) with ⟨e1, e2⟩ | ⟨o, e1, e2, e3, e4⟩
              · rw [e1] at hI
                have HQ2 : Hid (QuoteAt d i d.length) := ⟨hi, Nat.le_refl _, e2, fun h => absurd h (Nat.lt_irrefl _)⟩
                clear e1 e2
                go_wp2_with (go_at_call 24; refine hI.mono ?_; rintro e w' ⟨rfl, rfl⟩)
                all_goals
                  go_meet
                  exact ⟨rfl, d.length, rfl, HQ2⟩
              · rw [e1] at hI
                have HQ2 : Hid (QuoteAt d i (o + i)) := by
                  rw [Nat.add_comm]
                  exact ⟨by omega, by omega, fun k hk h1 h2 => e4 k hk h1 h2, e3⟩
                clear e1 e3 e4
                go_wp2_with (go_at_call 24; refine hI.mono ?_; rintro e w' ⟨rfl, rfl⟩)
                all_goals
                  go_meet
                  exact ⟨rfl, o + i, by go_num, HQ2⟩
            · have hie : i = d.length := by omega
              subst hie
              have HQ2 : Hid (QuoteAt d d.length d.length) := ⟨Nat.le_refl _, Nat.le_refl _, fun k hk h1 h2 => absurd h1 (by omega), fun h => absurd h (Nat.lt_irrefl _)⟩
              go_wp2_with (go_at_call 24; refine (idx_zero _ _ _ _).mono ?_; rintro e w' ⟨rfl, rfl⟩)
              all_goals
                go_meet
                exact ⟨rfl, d.length, rfl, HQ2⟩
          · rcases HQ.out with hq | ⟨Q, hQ, hA⟩
            · exact absurd hq hz
            · have HA := Hid.mk' hA
              subst hQ
              clear hA HQ
              go_wp2_with fail
              go_meet
              exact ⟨rfl, Q, rfl, HA⟩
        obtain ⟨hw3, Q, rfl, HA⟩ := hcut
        replace hw3 := hw3.symm
        subst hw3
        obtain ⟨hiQ, hQd, hq1, hq2⟩ := HA.out
        have Hq1 := Hid.mk' hq1
        have Hq2 := Hid.mk' hq2
        clear hq1 hq2 HA HQ
        by_cases hil : i < d.length
        · have hI := idx_any g i Q (d.length - i) d 92 w2 HCell.out hiQ hQd
          rcases idxZ_cases d i Q 92 hiQ hQd with ⟨e1, e2⟩ | ⟨o, e1, e2, e3, e4⟩
          · rw [e1] at hI
            have hR3 := (cq_to hiQ hQd (fun k hk h1 h2 => ⟨Hq1.out k hk h1 h2, e2 k hk h1 h2⟩)).symm.trans HE3.out
            clear e1 e2
            by_cases hQl : Q < d.length
            · have bq : ((Q : Int) == (d.length : Int)) = false := bno (by omega)
              rw [drop_cons hQl, Hq2.out hQl, cqM_quote] at hR3
              subst hR3
              go_wp2_with (go_at_call 24; refine hI.mono ?_; rintro e w' ⟨rfl, rfl⟩)
              all_goals
                go_ret2
                exact ⟨rfl, hb3⟩
            · have hQe : Q = d.length := by omega
              rw [List.drop_of_length_le (by omega)] at hR3
              have bq : ((Q : Int) == (d.length : Int)) = true := by rw [hQe]; simp
              have hR4 : R = (none, false) := hR3.symm
              subst hR4
              clear hR3 hQe
              go_wp2_with (go_at_call 24; refine hI.mono ?_; rintro e w' ⟨rfl, rfl⟩)
              all_goals
                go_ret2
                exact ⟨rfl, hb3⟩
          · rw [e1] at hI
            have hol : i + o < d.length := by omega
            have hR3 := (cq_to (show i ≤ i + o by omega) (show i + o ≤ d.length by omega) (fun k hk h1 h2 => ⟨Hq1.out k hk h1 (by omega), e4 k hk h1 h2⟩)).symm.trans HE3.out
            rw [drop_cons hol, e3 hol] at hR3
            clear e1 e3 e4
            by_cases hol2 : i + o + 1 < d.length
            · rw [drop_cons hol2, cqM_slash] at hR3
              have HR3 := Hid.mk' hR3
              clear hR3
              go_wp2_with (go_at_call 24; refine hI.mono ?_; rintro e w' ⟨rfl, rfl⟩)
              all_goals
                go_roundg (gk - 1)
                case measure => omega
                case rel =>
                  refine ⟨rfl, i + o + 2, Q, by go_num, rfl, by omega, by omega, by omega, by omega, ?_, HR3⟩
                  by_cases hlt : (Q : Int) < ((i + o + 2 : Nat) : Int)
                  · exact Or.inl hlt
                  · exact Or.inr ⟨Q, rfl, by omega, hQd, fun k hk h1 h2 => Hq1.out k hk (by omega) h2, Hq2.out⟩
            · rw [List.drop_of_length_le (show d.length ≤ i + o + 1 by omega), cqM_last] at hR3
              subst hR3
              go_wp2_with (go_at_call 24; refine hI.mono ?_; rintro e w' ⟨rfl, rfl⟩)
              all_goals
                go_ret2
                exact ⟨rfl, hb3⟩
        · have hie : i = d.length := by omega
          subst hie
          have hQe : Q = d.length := by omega
          subst hQe
          have hR4 : R = (none, false) := by
            have := HE3.out
            rw [List.drop_of_length_le (Nat.le_refl _)] at this
            exact this.symm
          subst hR4
          go_wp2_with (go_at_call 24; refine (idx_zero _ _ _ _).mono ?_; rintro e w' ⟨rfl, rfl⟩)
          all_goals
            go_ret2
            exact ⟨rfl, hb3⟩
end Go.Proofs.Qxb6616667aDoor
