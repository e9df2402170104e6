import Derived.Test.Qxb6616667aDoorN2
namespace Go.Proofs.Qxb6616667aDoor
open Go.RowKit

/-- Two readings of a number that resume cannot tell apart. -/
def agree (n : Nat) (N M : Nat × Nat) : Prop := N.1 = M.1 ∧ (N.1 = n → N.2 = M.2) ∧ wholeN N.2 = wholeN M.2
theorem agree.refl (n : Nat) (N : Nat × Nat) : agree n N N := ⟨rfl, fun _ => rfl, rfl⟩
theorem agree.to {n : Nat} {N M M' : Nat × Nat} (h : agree n N M) (e : M = M') : agree n N M' := e ▸ h

theorem back {d : List UInt8} {i q q' r : Nat} (h : i < d.length) (h1 : stepC q (cls d[i]) = some r) (h2 : stepC q' (cls d[i]) = some r) : numRun (d.drop i) q i = numRun (d.drop i) q' i :=
  (numRun_some h h1).trans (numRun_some h h2).symm
/-- After an e a byte that is neither a sign nor a digit: the text says part 7, the automaton 6. -/
theorem agree.six {d : List UInt8} {i : Nat} {N : Nat × Nat} (hi : i < d.length) (h : agree d.length N (numRun (d.drop i) 6 i)) (h6 : stepC 6 (cls d[i]) = none) (h7 : stepC 7 (cls d[i]) = none) : agree d.length N (numRun (d.drop i) 7 i) := by
  rw [numRun_none hi h6] at h
  rw [numRun_none hi h7]
  obtain ⟨h1, h2, h3⟩ := h
  exact ⟨h1, fun e => absurd (h1.symm.trans e) (Nat.ne_of_lt hi), h3⟩

set_option maxHeartbeats 3200000 in
set_option maxRecDepth 100000 in
theorem numberEnd_any (a : Option Addr) (d : List UInt8) (c i0 q0 : Nat) (w : World) (hC : Chunk w a d) (hi0 : i0 ≤ d.length) (hm : d.length ≤ 1048576) (hq0 : 1 ≤ q0) (hq0' : q0 ≤ 8) :
    Calls Tryd.prog 26 #[.slice a d.length c, .int .i64 i0, .int .i64 q0] w fun e w' => ∃ p q : Nat, e = .returned (.tuple #[.int .i64 p, .int .i64 q]) ∧ w' = w ∧ agree d.length (numRun (d.drop i0) q0 i0) (p, q) ∧ 1 ≤ q ∧ q ≤ 8 ∧ p ≤ d.length := by
  have HC := Hid.mk' hC
  clear hC
  generalize hN : numRun (d.drop i0) q0 i0 = N
  have HE := Hid.mk' (show agree d.length N (numRun (d.drop i0) q0 i0) from hN ▸ agree.refl _ _)
  clear hN
  have z0 : ((q0 : Int) == 0) = false := bno (k := 0) (by omega)
  have hlo : 1 ≤ q0 := hq0
  have hhi : q0 ≤ 8 := hq0'
  have hi : i0 ≤ d.length := hi0
  clear hq0 hq0' hi0
  go_enter Tryd.func26, Tryd.ntmps26
  go_upto_if 24 with fail
  go_cut [1, 2] (fun vi vq wx => wx = w ∧ ∃ i q : Nat, vi = .int .i64 i ∧ vq = .int .i64 q ∧ i ≤ d.length ∧ 2 ≤ q ∧ q ≤ 8 ∧ Hid (agree d.length N (numRun (d.drop i) q i)))
  case first => as_aux_lemma =>
    by_cases hq : q0 = 1
    · subst hq
      by_cases hlt : i0 < d.length
      · obtain ⟨g, rfl, hcell⟩ := HC.out i0 hlt
        have bl : ((i0 : Int) == (d.length : Int)) = false := bno (by omega)
        rcases cls_cases d[i0] with ⟨h, hb⟩ | ⟨h, hb, hb', e1, e2, e3, e4, e5, e6⟩ | ⟨h, hb⟩ | ⟨h, hb⟩ | ⟨h, hb⟩ | ⟨h, hb⟩ | ⟨h, hb⟩ | ⟨h, hb, e1, e2, e3, e4, e5, e6⟩
        · rw [hb] at hcell
          have HE2 := Hid.mk' (HE.out.to (numRun_some hlt (show stepC 1 (cls d[i0]) = some 2 by rw [h]; rfl)))
          clear h hb
          go_wp2_with fail
          go_meet
          exact ⟨rfl, i0 + 1, 2, by go_num, rfl, by omega, by omega, by omega, HE2⟩
        · have HE2 := Hid.mk' (HE.out.to (numRun_some hlt (show stepC 1 (cls d[i0]) = some 3 by rw [h]; rfl)))
          have k1 : decide ((d[i0].toNat : Int) ≤ 57) = true := dle (k := 57) hb'
          clear h
          go_wp2_with fail
          go_meet
          exact ⟨rfl, i0 + 1, 3, by go_num, rfl, by omega, by omega, by omega, HE2⟩
        · rw [hb] at hcell
          have HE2 := Hid.mk' (HE.out.to (numRun_none hlt (show stepC 1 (cls d[i0]) = none by rw [h]; rfl)))
          clear h hb
          go_wp2_with fail
          go_ret2
          exact ⟨i0, 1, rfl, rfl, HE2.out, by omega, by omega, by omega⟩
        · rw [hb] at hcell
          have HE2 := Hid.mk' (HE.out.to (numRun_none hlt (show stepC 1 (cls d[i0]) = none by rw [h]; rfl)))
          clear h hb
          go_wp2_with fail
          go_ret2
          exact ⟨i0, 1, rfl, rfl, HE2.out, by omega, by omega, by omega⟩
        · rw [hb] at hcell
          have HE2 := Hid.mk' (HE.out.to (numRun_none hlt (show stepC 1 (cls d[i0]) = none by rw [h]; rfl)))
          clear h hb
          go_wp2_with fail
          go_ret2
          exact ⟨i0, 1, rfl, rfl, HE2.out, by omega, by omega, by omega⟩
        · rw [hb] at hcell
          have HE2 := Hid.mk' (HE.out.to (numRun_none hlt (show stepC 1 (cls d[i0]) = none by rw [h]; rfl)))
          clear h hb
          go_wp2_with fail
          go_ret2
          exact ⟨i0, 1, rfl, rfl, HE2.out, by omega, by omega, by omega⟩
        · rw [hb] at hcell
          have HE2 := Hid.mk' (HE.out.to (numRun_none hlt (show stepC 1 (cls d[i0]) = none by rw [h]; rfl)))
          clear h hb
          go_wp2_with fail
          go_ret2
          exact ⟨i0, 1, rfl, rfl, HE2.out, by omega, by omega, by omega⟩
        · have HE2 := Hid.mk' (HE.out.to (numRun_none hlt (show stepC 1 (cls d[i0]) = none by rw [h]; rfl)))
          clear h
          rcases hb with hb | hb
          · go_wp2_with fail
            go_ret2
            exact ⟨i0, 1, rfl, rfl, HE2.out, by omega, by omega, by omega⟩
          · have k1 : decide ((d[i0].toNat : Int) ≤ 57) = false := dnle (k := 57) hb
            go_wp2_with fail
            go_ret2
            exact ⟨i0, 1, rfl, rfl, HE2.out, by omega, by omega, by omega⟩
      · have hle : i0 = d.length := by omega
        have HE2 := Hid.mk' (HE.out.to (numRun_nil (show d.length ≤ i0 by omega)))
        have bl : ((i0 : Int) == (d.length : Int)) = true := by rw [hle]; simp
        clear hle
        go_wp2_with fail
        go_ret2
        exact ⟨i0, 1, rfl, rfl, HE2.out, by omega, by omega, by omega⟩
    · have bq : ((q0 : Int) == 1) = false := bno (k := 1) hq
      go_wp2_with fail
      go_meet
      exact ⟨rfl, i0, q0, rfl, rfl, hi, by omega, hhi, HE⟩
  obtain ⟨hwc, i, q, rfl, rfl, hi, hlo, hhi, HE⟩ := hcut
  replace hwc := hwc.symm
  subst hwc
  go_upto_if 56 with fail
  go_cut [1, 2] (fun vi vq wx => wx = w ∧ ∃ i q : Nat, vi = .int .i64 i ∧ vq = .int .i64 q ∧ i ≤ d.length ∧ 2 ≤ q ∧ q ≤ 8 ∧ Hid (agree d.length N (numRun (d.drop i) q i)) ∧ Hid (q = 3 → ∀ h : i < d.length, digB d[i] = false))
  case first => as_aux_lemma =>
    by_cases hq : q = 3
    · subst hq
      have hD := digitsEnd_any a d c i w HC.out hi hm
      have HE2 := Hid.mk' (HE.out.to (numRun_digits d (q := 3) (Or.inl rfl) _ i rfl))
      have hst := Hid.mk' (digEnd_stop d _ i rfl)
      have hle := digEnd_le hi
      generalize digEnd d i = j at hD HE2 hst hle
      go_wp2_with (go_at_call 33; refine hD.mono ?_; rintro e w' ⟨rfl, rfl⟩)
      go_meet
      exact ⟨rfl, j, 3, rfl, rfl, hle.2, by omega, by omega, HE2, fun _ => hst.out⟩
    · have bq : ((q : Int) == 3) = false := bno (k := 3) hq
      go_wp2_with fail
      go_meet
      exact ⟨rfl, i, q, rfl, rfl, hi, by omega, hhi, HE, fun h => absurd h hq⟩
  obtain ⟨hwc, i, q, rfl, rfl, hi, hlo, hhi, HE, HD⟩ := hcut
  replace hwc := hwc.symm
  subst hwc
  go_upto_if 61 with fail
  go_cut [1, 2] (fun vi vq wx => wx = w ∧ ∃ i q : Nat, vi = .int .i64 i ∧ vq = .int .i64 q ∧ i ≤ d.length ∧ 4 ≤ q ∧ q ≤ 8 ∧ Hid (agree d.length N (numRun (d.drop i) q i)))
  case first => as_aux_lemma =>
    by_cases hq : q ≤ 3
    · by_cases hlt : i < d.length
      · obtain ⟨g, rfl, hcell⟩ := HC.out i hlt
        have bl : ((i : Int) == (d.length : Int)) = false := bno (by omega)
        have hstep : ∀ k, 2 ≤ k → k ≤ 7 → stepC q k = stepC 2 k := by
          intro k hk hk7
          rcases (show q = 2 ∨ q = 3 by omega) with rfl | rfl
          · rfl
          · rcases (show k = 2 ∨ k = 3 ∨ k = 4 ∨ k = 5 ∨ k = 6 ∨ k = 7 by omega) with rfl | rfl | rfl | rfl | rfl | rfl <;> rfl
        have hdig : cls d[i] ≤ 1 → stepC q (cls d[i]) = none := by
          intro hk
          rcases (show q = 2 ∨ q = 3 by omega) with rfl | rfl
          · rcases (show cls d[i] = 0 ∨ cls d[i] = 1 by omega) with h | h <;> rw [h] <;> rfl
          · have := HD.out rfl hlt
            rw [dig_cls, decide_eq_false_iff_not] at this
            exact absurd hk this
        have Hstep := Hid.mk' hstep
        have Hdig := Hid.mk' hdig
        clear hstep hdig
        rcases cls_cases d[i] with ⟨h, hb⟩ | ⟨h, hb, hb', e1, e2, e3, e4, e5, e6⟩ | ⟨h, hb⟩ | ⟨h, hb⟩ | ⟨h, hb⟩ | ⟨h, hb⟩ | ⟨h, hb⟩ | ⟨h, hb, e1, e2, e3, e4, e5, e6⟩
        · rw [hb] at hcell
          have HE2 := Hid.mk' (HE.out.to (numRun_none hlt (Hdig.out (by omega))))
          clear h hb Hstep Hdig
          go_wp2_with fail
          go_ret2
          exact ⟨i, q, rfl, rfl, HE2.out, by omega, by omega, by omega⟩
        · have HE2 := Hid.mk' (HE.out.to (numRun_none hlt (Hdig.out (by omega))))
          clear h Hstep Hdig
          go_wp2_with fail
          go_ret2
          exact ⟨i, q, rfl, rfl, HE2.out, by omega, by omega, by omega⟩
        · rw [hb] at hcell
          have HE2 := Hid.mk' (HE.out.to (numRun_some hlt (show stepC q (cls d[i]) = some 4 by rw [h, Hstep.out _ (by decide) (by decide)]; rfl)))
          clear h hb Hstep Hdig
          go_wp2_with fail
          go_meet
          exact ⟨rfl, i + 1, 4, by go_num, rfl, by omega, by omega, by omega, HE2⟩
        · rw [hb] at hcell
          have HE2 := Hid.mk' (HE.out.to (numRun_some hlt (show stepC q (cls d[i]) = some 6 by rw [h, Hstep.out _ (by decide) (by decide)]; rfl)))
          clear h hb Hstep Hdig
          go_wp2_with fail
          go_meet
          exact ⟨rfl, i + 1, 6, by go_num, rfl, by omega, by omega, by omega, HE2⟩
        · rw [hb] at hcell
          have HE2 := Hid.mk' (HE.out.to (numRun_some hlt (show stepC q (cls d[i]) = some 6 by rw [h, Hstep.out _ (by decide) (by decide)]; rfl)))
          clear h hb Hstep Hdig
          go_wp2_with fail
          go_meet
          exact ⟨rfl, i + 1, 6, by go_num, rfl, by omega, by omega, by omega, HE2⟩
        · rw [hb] at hcell
          have HE2 := Hid.mk' (HE.out.to (numRun_none hlt (by rw [h, Hstep.out _ (by decide) (by decide)]; rfl)))
          clear h hb Hstep Hdig
          go_wp2_with fail
          go_ret2
          exact ⟨i, q, rfl, rfl, HE2.out, by omega, by omega, by omega⟩
        · rw [hb] at hcell
          have HE2 := Hid.mk' (HE.out.to (numRun_none hlt (by rw [h, Hstep.out _ (by decide) (by decide)]; rfl)))
          clear h hb Hstep Hdig
          go_wp2_with fail
          go_ret2
          exact ⟨i, q, rfl, rfl, HE2.out, by omega, by omega, by omega⟩
        · have HE2 := Hid.mk' (HE.out.to (numRun_none hlt (by rw [h, Hstep.out _ (by decide) (by decide)]; rfl)))
          clear h Hstep Hdig
          go_wp2_with fail
          go_ret2
          exact ⟨i, q, rfl, rfl, HE2.out, by omega, by omega, by omega⟩
      · have hle : i = d.length := by omega
        have HE2 := Hid.mk' (HE.out.to (numRun_nil (show d.length ≤ i by omega)))
        have bl : ((i : Int) == (d.length : Int)) = true := by rw [hle]; simp
        clear hle
        go_wp2_with fail
        go_ret2
        exact ⟨i, q, rfl, rfl, HE2.out, by omega, by omega, by omega⟩
    · have hq' : 3 < q := by omega
      go_wp2_with fail
      go_meet
      exact ⟨rfl, i, q, rfl, rfl, hi, by omega, hhi, HE⟩
  obtain ⟨hwc, i, q, rfl, rfl, hi, hlo, hhi, HE⟩ := hcut
  replace hwc := hwc.symm
  subst hwc
  go_upto_if 93 with fail
  go_cut [1, 2] (fun vi vq wx => wx = w ∧ ∃ i q : Nat, vi = .int .i64 i ∧ vq = .int .i64 q ∧ i ≤ d.length ∧ 5 ≤ q ∧ q ≤ 8 ∧ Hid (agree d.length N (numRun (d.drop i) q i)))
  case first => as_aux_lemma =>
    by_cases hq : q = 4
    · subst hq
      by_cases hlt : i < d.length
      · obtain ⟨g, rfl, hcell⟩ := HC.out i hlt
        have bl : ((i : Int) == (d.length : Int)) = false := bno (by omega)
        have hD := isDigit_any d[i]
        have hc := dig_cls d[i]
        cases hb : digB d[i] with
        | true =>
          rw [hb] at hD hc
          have hk : cls d[i] ≤ 1 := by simpa using hc.symm
          have HE2 := Hid.mk' (HE.out.to (back (q' := 5) (r := 5) hlt (by rcases (show cls d[i] = 0 ∨ cls d[i] = 1 by omega) with h | h <;> rw [h] <;> rfl) (by rcases (show cls d[i] = 0 ∨ cls d[i] = 1 by omega) with h | h <;> rw [h] <;> rfl)))
          clear hb hc hk
          go_wp2_with (go_at_call 34; refine (hD _).mono ?_; rintro e w' ⟨rfl, rfl⟩)
          go_meet
          exact ⟨rfl, i, 5, rfl, rfl, hi, by omega, by omega, HE2⟩
        | false =>
          rw [hb] at hD hc
          have hk : ¬ cls d[i] ≤ 1 := by simpa using hc.symm
          have hk7 := cls_le d[i]
          have HE2 := Hid.mk' (HE.out.to (numRun_none hlt (show stepC 4 (cls d[i]) = none by
            rcases (show cls d[i] = 2 ∨ cls d[i] = 3 ∨ cls d[i] = 4 ∨ cls d[i] = 5 ∨ cls d[i] = 6 ∨ cls d[i] = 7 by omega) with h | h | h | h | h | h <;> rw [h] <;> rfl)))
          clear hb hc hk hk7
          go_wp2_with (go_at_call 34; refine (hD _).mono ?_; rintro e w' ⟨rfl, rfl⟩)
          go_ret2
          exact ⟨i, 4, rfl, rfl, HE2.out, by omega, by omega, by omega⟩
      · have hle : i = d.length := by omega
        have HE2 := Hid.mk' (HE.out.to (numRun_nil (show d.length ≤ i by omega)))
        have bl : ((i : Int) == (d.length : Int)) = true := by rw [hle]; simp
        clear hle
        go_wp2_with fail
        go_ret2
        exact ⟨i, 4, rfl, rfl, HE2.out, by omega, by omega, by omega⟩
    · have bq : ((q : Int) == 4) = false := bno (k := 4) hq
      go_wp2_with fail
      go_meet
      exact ⟨rfl, i, q, rfl, rfl, hi, by omega, hhi, HE⟩
  obtain ⟨hwc, i, q, rfl, rfl, hi, hlo, hhi, HE⟩ := hcut
  replace hwc := hwc.symm
  subst hwc
  go_upto_if 109 with fail
  go_cut [1, 2] (fun vi vq wx => wx = w ∧ ∃ i q : Nat, vi = .int .i64 i ∧ vq = .int .i64 q ∧ i ≤ d.length ∧ 6 ≤ q ∧ q ≤ 8 ∧ Hid (agree d.length N (numRun (d.drop i) q i)))
  case first => as_aux_lemma =>
    by_cases hq : q = 5
    · subst hq
      have hD := digitsEnd_any a d c i w HC.out hi hm
      have HE1 := Hid.mk' (HE.out.to (numRun_digits d (q := 5) (Or.inr (Or.inl rfl)) _ i rfl))
      have hst := Hid.mk' (digEnd_stop d _ i rfl)
      have hle := digEnd_le hi
      generalize digEnd d i = j at hD HE1 hst hle
      obtain ⟨hij, hj⟩ := hle
      by_cases hlt : j < d.length
      · obtain ⟨g, rfl, hcell⟩ := HC.out j hlt
        have bl : ((j : Int) == (d.length : Int)) = false := bno (by omega)
        have hnd := hst.out hlt
        rw [dig_cls, decide_eq_false_iff_not] at hnd
        rcases cls_cases d[j] with ⟨h, hb⟩ | ⟨h, hb, hb', e1, e2, e3, e4, e5, e6⟩ | ⟨h, hb⟩ | ⟨h, hb⟩ | ⟨h, hb⟩ | ⟨h, hb⟩ | ⟨h, hb⟩ | ⟨h, hb, e1, e2, e3, e4, e5, e6⟩
        · exact absurd (by omega) hnd
        · exact absurd (by omega) hnd
        · rw [hb] at hcell
          have HE2 := Hid.mk' (HE1.out.to (numRun_none hlt (show stepC 5 (cls d[j]) = none by rw [h]; rfl)))
          clear h hb hnd
          go_wp2_with (go_at_call 33; refine hD.mono ?_; rintro e w' ⟨rfl, rfl⟩)
          go_ret2
          exact ⟨j, 5, rfl, rfl, HE2.out, by omega, by omega, by omega⟩
        · rw [hb] at hcell
          have HE2 := Hid.mk' (HE1.out.to (numRun_some hlt (show stepC 5 (cls d[j]) = some 6 by rw [h]; rfl)))
          clear h hb hnd
          go_wp2_with (go_at_call 33; refine hD.mono ?_; rintro e w' ⟨rfl, rfl⟩)
          go_meet
          exact ⟨rfl, j + 1, 6, by go_num, rfl, by omega, by omega, by omega, HE2⟩
        · rw [hb] at hcell
          have HE2 := Hid.mk' (HE1.out.to (numRun_some hlt (show stepC 5 (cls d[j]) = some 6 by rw [h]; rfl)))
          clear h hb hnd
          go_wp2_with (go_at_call 33; refine hD.mono ?_; rintro e w' ⟨rfl, rfl⟩)
          go_meet
          exact ⟨rfl, j + 1, 6, by go_num, rfl, by omega, by omega, by omega, HE2⟩
        · rw [hb] at hcell
          have HE2 := Hid.mk' (HE1.out.to (numRun_none hlt (show stepC 5 (cls d[j]) = none by rw [h]; rfl)))
          clear h hb hnd
          go_wp2_with (go_at_call 33; refine hD.mono ?_; rintro e w' ⟨rfl, rfl⟩)
          go_ret2
          exact ⟨j, 5, rfl, rfl, HE2.out, by omega, by omega, by omega⟩
        · rw [hb] at hcell
          have HE2 := Hid.mk' (HE1.out.to (numRun_none hlt (show stepC 5 (cls d[j]) = none by rw [h]; rfl)))
          clear h hb hnd
          go_wp2_with (go_at_call 33; refine hD.mono ?_; rintro e w' ⟨rfl, rfl⟩)
          go_ret2
          exact ⟨j, 5, rfl, rfl, HE2.out, by omega, by omega, by omega⟩
        · have HE2 := Hid.mk' (HE1.out.to (numRun_none hlt (show stepC 5 (cls d[j]) = none by rw [h]; rfl)))
          have n3 : ((d[j].toNat : Int) != 101) = true := by rw [bne, e3]; rfl
          have n4 : ((d[j].toNat : Int) != 69) = true := by rw [bne, e4]; rfl
          clear h hnd
          go_wp2_with (go_at_call 33; refine hD.mono ?_; rintro e w' ⟨rfl, rfl⟩)
          go_ret2
          exact ⟨j, 5, rfl, rfl, HE2.out, by omega, by omega, by omega⟩
      · have hle : j = d.length := by omega
        have HE2 := Hid.mk' (HE1.out.to (numRun_nil (show d.length ≤ j by omega)))
        have bl : ((j : Int) == (d.length : Int)) = true := by rw [hle]; simp
        clear hle
        go_wp2_with (go_at_call 33; refine hD.mono ?_; rintro e w' ⟨rfl, rfl⟩)
        go_ret2
        exact ⟨j, 5, rfl, rfl, HE2.out, by omega, by omega, by omega⟩
    · have bq : ((q : Int) == 5) = false := bno (k := 5) hq
      go_wp2_with fail
      go_meet
      exact ⟨rfl, i, q, rfl, rfl, hi, by omega, hhi, HE⟩
  obtain ⟨hwc, i, q, rfl, rfl, hi, hlo, hhi, HE⟩ := hcut
  replace hwc := hwc.symm
  subst hwc
  go_upto_if 136 with fail
  go_cut [1, 2] (fun vi vq wx => wx = w ∧ ∃ i q : Nat, vi = .int .i64 i ∧ vq = .int .i64 q ∧ i ≤ d.length ∧ 7 ≤ q ∧ q ≤ 8 ∧ Hid (agree d.length N (numRun (d.drop i) q i)))
  case first => as_aux_lemma =>
    by_cases hq : q = 6
    · subst hq
      by_cases hlt : i < d.length
      · obtain ⟨g, rfl, hcell⟩ := HC.out i hlt
        have bl : ((i : Int) == (d.length : Int)) = false := bno (by omega)
        rcases cls_cases d[i] with ⟨h, hb⟩ | ⟨h, hb, hb', e1, e2, e3, e4, e5, e6⟩ | ⟨h, hb⟩ | ⟨h, hb⟩ | ⟨h, hb⟩ | ⟨h, hb⟩ | ⟨h, hb⟩ | ⟨h, hb, e1, e2, e3, e4, e5, e6⟩
        · rw [hb] at hcell
          have HE2 := Hid.mk' (HE.out.to (back (q' := 7) (r := 8) hlt (by rw [h]; rfl) (by rw [h]; rfl)))
          clear h hb
          go_wp2_with fail
          go_meet
          exact ⟨rfl, i, 7, by go_num, rfl, by omega, by omega, by omega, HE2⟩
        · skip
          have HE2 := Hid.mk' (HE.out.to (back (q' := 7) (r := 8) hlt (by rw [h]; rfl) (by rw [h]; rfl)))
          clear h
          go_wp2_with fail
          go_meet
          exact ⟨rfl, i, 7, by go_num, rfl, by omega, by omega, by omega, HE2⟩
        · rw [hb] at hcell
          have HE2 := Hid.mk' (HE.out.six hlt (by rw [h]; rfl) (by rw [h]; rfl))
          clear h hb
          go_wp2_with fail
          go_meet
          exact ⟨rfl, i, 7, by go_num, rfl, by omega, by omega, by omega, HE2⟩
        · rw [hb] at hcell
          have HE2 := Hid.mk' (HE.out.six hlt (by rw [h]; rfl) (by rw [h]; rfl))
          clear h hb
          go_wp2_with fail
          go_meet
          exact ⟨rfl, i, 7, by go_num, rfl, by omega, by omega, by omega, HE2⟩
        · rw [hb] at hcell
          have HE2 := Hid.mk' (HE.out.six hlt (by rw [h]; rfl) (by rw [h]; rfl))
          clear h hb
          go_wp2_with fail
          go_meet
          exact ⟨rfl, i, 7, by go_num, rfl, by omega, by omega, by omega, HE2⟩
        · rw [hb] at hcell
          have HE2 := Hid.mk' (HE.out.to (numRun_some hlt (show stepC 6 (cls d[i]) = some 7 by rw [h]; rfl)))
          clear h hb
          go_wp2_with fail
          go_meet
          exact ⟨rfl, i + 1, 7, by go_num, rfl, by omega, by omega, by omega, HE2⟩
        · rw [hb] at hcell
          have HE2 := Hid.mk' (HE.out.to (numRun_some hlt (show stepC 6 (cls d[i]) = some 7 by rw [h]; rfl)))
          clear h hb
          go_wp2_with fail
          go_meet
          exact ⟨rfl, i + 1, 7, by go_num, rfl, by omega, by omega, by omega, HE2⟩
        · skip
          have HE2 := Hid.mk' (HE.out.six hlt (by rw [h]; rfl) (by rw [h]; rfl))
          clear h
          go_wp2_with fail
          go_meet
          exact ⟨rfl, i, 7, by go_num, rfl, by omega, by omega, by omega, HE2⟩
      · have hle : i = d.length := by omega
        have HE2 := Hid.mk' (HE.out.to (numRun_nil (show d.length ≤ i by omega)))
        have bl : ((i : Int) == (d.length : Int)) = true := by rw [hle]; simp
        clear hle
        go_wp2_with fail
        go_ret2
        exact ⟨i, 6, rfl, rfl, HE2.out, by omega, by omega, by omega⟩
    · have bq : ((q : Int) == 6) = false := bno (k := 6) hq
      go_wp2_with fail
      go_meet
      exact ⟨rfl, i, q, rfl, rfl, hi, by omega, hhi, HE⟩
  obtain ⟨hwc, i, q, rfl, rfl, hi, hlo, hhi, HE⟩ := hcut
  replace hwc := hwc.symm
  subst hwc
  go_upto_if 158 with fail
  go_cut [1, 2] (fun vi vq wx => wx = w ∧ ∃ i q : Nat, vi = .int .i64 i ∧ vq = .int .i64 q ∧ i ≤ d.length ∧ 8 ≤ q ∧ q ≤ 8 ∧ Hid (agree d.length N (numRun (d.drop i) q i)))
  case first => as_aux_lemma =>
    by_cases hq : q = 7
    · subst hq
      by_cases hlt : i < d.length
      · obtain ⟨g, rfl, hcell⟩ := HC.out i hlt
        have bl : ((i : Int) == (d.length : Int)) = false := bno (by omega)
        have hD := isDigit_any d[i]
        have hc := dig_cls d[i]
        cases hb : digB d[i] with
        | true =>
          rw [hb] at hD hc
          have hk : cls d[i] ≤ 1 := by simpa using hc.symm
          have HE2 := Hid.mk' (HE.out.to (back (q' := 8) (r := 8) hlt (by rcases (show cls d[i] = 0 ∨ cls d[i] = 1 by omega) with h | h <;> rw [h] <;> rfl) (by rcases (show cls d[i] = 0 ∨ cls d[i] = 1 by omega) with h | h <;> rw [h] <;> rfl)))
          clear hb hc hk
          go_wp2_with (go_at_call 34; refine (hD _).mono ?_; rintro e w' ⟨rfl, rfl⟩)
          go_meet
          exact ⟨rfl, i, 8, rfl, rfl, hi, by omega, by omega, HE2⟩
        | false =>
          rw [hb] at hD hc
          have hk : ¬ cls d[i] ≤ 1 := by simpa using hc.symm
          have hk7 := cls_le d[i]
          have HE2 := Hid.mk' (HE.out.to (numRun_none hlt (show stepC 7 (cls d[i]) = none by
            rcases (show cls d[i] = 2 ∨ cls d[i] = 3 ∨ cls d[i] = 4 ∨ cls d[i] = 5 ∨ cls d[i] = 6 ∨ cls d[i] = 7 by omega) with h | h | h | h | h | h <;> rw [h] <;> rfl)))
          clear hb hc hk hk7
          go_wp2_with (go_at_call 34; refine (hD _).mono ?_; rintro e w' ⟨rfl, rfl⟩)
          go_ret2
          exact ⟨i, 7, rfl, rfl, HE2.out, by omega, by omega, by omega⟩
      · have hle : i = d.length := by omega
        have HE2 := Hid.mk' (HE.out.to (numRun_nil (show d.length ≤ i by omega)))
        have bl : ((i : Int) == (d.length : Int)) = true := by rw [hle]; simp
        clear hle
        go_wp2_with fail
        go_ret2
        exact ⟨i, 7, rfl, rfl, HE2.out, by omega, by omega, by omega⟩
    · have bq : ((q : Int) == 7) = false := bno (k := 7) hq
      go_wp2_with fail
      go_meet
      exact ⟨rfl, i, q, rfl, rfl, hi, by omega, hhi, HE⟩
  obtain ⟨hwc, i, q, rfl, rfl, hi, hlo, hhi, HE⟩ := hcut
  replace hwc := hwc.symm
  subst hwc
  obtain rfl : q = 8 := by omega
  have hD := digitsEnd_any a d c i w HC.out hi hm
  have HE1 := Hid.mk' (HE.out.to (numRun_digits d (q := 8) (Or.inr (Or.inr rfl)) _ i rfl))
  have hst := Hid.mk' (digEnd_stop d _ i rfl)
  have hle := digEnd_le hi
  generalize digEnd d i = j at hD HE1 hst hle
  obtain ⟨hij, hj⟩ := hle
  have HE2 : Hid (agree d.length N (j, 8)) := by
    by_cases hlt : j < d.length
    · have hnd := hst.out hlt
      rw [dig_cls, decide_eq_false_iff_not] at hnd
      have hk7 := cls_le d[j]
      refine HE1.out.to (numRun_none hlt ?_)
      rcases (show cls d[j] = 2 ∨ cls d[j] = 3 ∨ cls d[j] = 4 ∨ cls d[j] = 5 ∨ cls d[j] = 6 ∨ cls d[j] = 7 by omega) with h | h | h | h | h | h <;> rw [h] <;> rfl
    · exact HE1.out.to (numRun_nil (by omega))
  go_wp2_with (go_at_call 33; refine hD.mono ?_; rintro e w' ⟨rfl, rfl⟩)
  go_ret2
  exact ⟨j, 8, rfl, rfl, HE2.out, by omega, by omega, hj⟩
end Go.Proofs.Qxb6616667aDoor
