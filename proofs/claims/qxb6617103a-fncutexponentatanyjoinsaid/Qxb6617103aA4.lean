import Derived.Test.Qxb6617103aS4
namespace Go.Proofs.Qxb6617103a
open Go.RowKit

set_option maxHeartbeats 1600000 in
set_option maxRecDepth 100000 in
theorem law4_small (x y : ByteArray) (up : Bool) (c : UInt8) (hc : c = if up then 69 else 101) (w : World) (hbig : x.size + y.size ≤ 1048576) :
    Calls Try.prog 4 #[.string x, .string y, .bool up] w fun e w' => e = .returned (.bool true) ∧ Below w.heap.size w w' := by
  have hce : c = 101 ∨ c = 69 := by cases up <;> simp at hc <;> simp [hc]
  have hx1 : (x.size : Int) ≤ 1048576 := by omega
  have hy1 : (y.size : Int) ≤ 1048576 := by omega
  have hxy : (x.size : Int) + y.size ≤ 1048576 := by omega
  have hm1 : (mk1 c).size = 1 := rfl
  have hJs : (x ++ mk1 c ++ y).size ≤ 1048577 := by rw [app_size, app_size, hm1]; omega
  obtain ⟨t, ht⟩ : ∃ t, t = trim x := ⟨_, rfl⟩
  have htj : trim (x ++ mk1 c ++ y) = t ++ mk1 c ++ y := by rw [ht]; exact trim_join x y c hce
  have hts : t.size ≤ x.size := by rw [ht]; exact trim_size x
  obtain ⟨n, hn⟩ : ∃ n, n = signN x := ⟨_, rfl⟩
  have hcut : x.extract n x.size = t := by rw [hn, ht]; exact signN_cut x
  obtain ⟨n1, n2⟩ : n ≤ x.size ∧ n ≤ 1 := by rw [hn]; exact signN_le x
  have z2 := fun W => signLen_any x W
  rw [← hn] at z2
  have Z2 := Hid.mk' z2
  have zm := fun W => hasMark_any x W (by unfold maxLen; omega)
  clear z2 hn
  rcases Int.lt_or_le (idxE t.data.toList) 0 with hneg | hpos
  · have hi : idxE t.data.toList = -1 := by have := idx_ge t.data.toList; omega
    obtain ⟨j1, j2, j3⟩ := join_no t y c hce hi
    have zj := fun W => zzcut_found (x ++ mk1 c ++ y) (t ++ mk1 c ++ y) t.size W (by omega) htj j1
    rw [j2, j3] at zj
    simp only [mk1] at zj
    have ZJ := Hid.mk' zj
    have ZX := Hid.mk' (fun W => zzcut_none x t W (by omega) ht.symm hi)
    have hix : idxE x.data.toList = -1 := by
      rw [ht, trim_list] at hi
      exact (idx_trim _).1 hi
    rw [show hasE x = false by unfold hasE; rw [hix]; rfl] at zm
    have ZM := Hid.mk' zm
    clear zj zm hi hneg ht htj j1 j2 j3 hix
    cases up
    all_goals
      simp at hc
      subst hc
      go_enter Try.func4, Try.ntmps4
      go_wp2_with (first
        | (go_at_call 10; go_in)
        | (go_at_call_of 8 (Value.string x); refine (ZX.out _).mono ?_; rintro e w1 ⟨rfl, hb1⟩; refine Hid.out ?_))
      refine Hid.mk' ?_
      go_wp2_with (first
        | (go_at_call 8; refine (ZJ.out _).mono ?_; rintro e w2 ⟨rfl, hb2⟩)
        | (go_at_call 9; refine (ZM.out _).mono ?_; rintro e w' ⟨rfl, rfl⟩)
        | (go_at_call 7; refine (Z2.out _).mono ?_; rintro e w' ⟨rfl, rfl⟩))
      go_ret
      exact ⟨rfl, hb1.trans (hb2.mono hb1.size)⟩
  · obtain ⟨i, hi⟩ : ∃ i : Nat, idxE t.data.toList = i := ⟨(idxE t.data.toList).toNat, by omega⟩
    obtain ⟨j1, j2, j3⟩ := join_hit t y c i hi
    have hil := (idx_at hi).1
    have zj := fun W => zzcut_found (x ++ mk1 c ++ y) (t ++ mk1 c ++ y) i W (by omega) htj j1
    rw [j2, j3] at zj
    have zx := fun W => zzcut_found x t i W (by omega) ht.symm hi
    have hEs : (t.extract (i + 1) t.size).size ≤ 1048576 := by
      have e : t.data.toList.length = t.size := rfl
      rw [size_list, ext_list, List.length_drop, List.length_take, e, Nat.min_self]; omega
    generalize t.extract (i + 1) t.size = E at zj zx hEs
    generalize t.extract 0 i = M at zj zx
    simp only [mk1] at zj
    have ZJ := Hid.mk' zj
    have ZX := Hid.mk' zx
    have hix : idxE x.data.toList ≠ -1 := by
      intro e
      have e2 := (idx_trim x.data.toList).2 e
      rw [← trim_list, ← ht, hi] at e2
      omega
    rw [show hasE x = true by unfold hasE; simpa using hix] at zm
    have ZM := Hid.mk' zm
    clear zj zx zm hi hpos ht htj j1 j2 j3 hix hil
    cases up
    all_goals
      simp at hc
      subst hc
      go_enter Try.func4, Try.ntmps4
      go_wp2_with (first
        | (go_at_call 10; go_in)
        | (go_at_call_of 8 (Value.string x); refine (ZX.out _).mono ?_; rintro e w1 ⟨rfl, hb1⟩; refine Hid.out ?_))
      refine Hid.mk' ?_
      go_wp2_with (first
        | (go_at_call 8; refine (ZJ.out _).mono ?_; rintro e w2 ⟨rfl, hb2⟩)
        | (go_at_call 9; refine (ZM.out _).mono ?_; rintro e w' ⟨rfl, rfl⟩)
        | (go_at_call 7; refine (Z2.out _).mono ?_; rintro e w' ⟨rfl, rfl⟩))
      go_ret
      exact ⟨rfl, hb1.trans (hb2.mono hb1.size)⟩

set_option maxHeartbeats 1600000 in
set_option maxRecDepth 100000 in
theorem law4 (x y : ByteArray) (up : Bool) (w : World) (hx : x.size ≤ maxLen) (hy : y.size ≤ maxLen) :
    Calls Try.prog 4 #[.string x, .string y, .bool up] w fun e w' => e = .returned (.bool true) ∧ Below w.heap.size w w' := by
  unfold maxLen at hx hy
  by_cases hbig : x.size + y.size ≤ 1048576
  · exact law4_small x y up _ rfl w hbig
  · by_cases h1 : (1048576 : Int) < x.size
    · go_enter Try.func4, Try.ntmps4
      go_wp2
      go_ret
      exact ⟨rfl, Below.refl _ _⟩
    · by_cases h2 : (1048576 : Int) < y.size
      · go_enter Try.func4, Try.ntmps4
        go_wp2
        go_ret
        exact ⟨rfl, Below.refl _ _⟩
      · have h3 : (1048576 : Int) < x.size + y.size := by omega
        go_enter Try.func4, Try.ntmps4
        go_wp2
        go_ret
        exact ⟨rfl, Below.refl _ _⟩
end Go.Proofs.Qxb6617103a
