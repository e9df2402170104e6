import Derived.Test.Qxb6617103aS3
namespace Go.Proofs.Qxb6617103a
open Go.RowKit

set_option maxHeartbeats 1600000 in
set_option maxRecDepth 100000 in
theorem law3 (s : ByteArray) (w : World) (hs : s.size ≤ maxLen) :
    Calls Try.prog 3 #[.string s] w fun e w' => e = .returned (.bool true) ∧ Below w.heap.size w w' := by
  unfold maxLen at hs
  by_cases hbig : s.size ≤ 1048576
  · have hbig' : (s.size : Int) ≤ 1048576 := by omega
    obtain ⟨n, hn⟩ : ∃ n, n = signN s := ⟨_, rfl⟩
    obtain ⟨t, ht⟩ : ∃ t, t = trim s := ⟨_, rfl⟩
    have hcut : s.extract n s.size = t := by rw [hn, ht]; exact signN_cut s
    have hn1 : n ≤ s.size ∧ n ≤ 1 := by rw [hn]; exact signN_le s
    have hts : t.size ≤ s.size := by rw [ht]; exact trim_size s
    have z1 := fun W => zztrim_any s W (by unfold maxLen; omega)
    rw [← ht] at z1
    have z2 := fun W => signLen_any s W
    rw [← hn] at z2
    have Z1 := Hid.mk' z1
    have Z2 := Hid.mk' z2
    obtain ⟨n1, n2⟩ := hn1
    clear z1 z2 hn
    rcases Int.lt_or_le (idxE t.data.toList) 0 with hneg | hpos
    · have hi : idxE t.data.toList = -1 := by have := idx_ge t.data.toList; omega
      have Z3 := Hid.mk' (fun W => zzcut_none s t W (by omega) ht.symm hi)
      have hm := fun W => hasMark_any t W (by unfold maxLen; omega)
      rw [show hasE t = false by unfold hasE; rw [hi]; rfl] at hm
      have Z4 := Hid.mk' hm
      clear hm hi hneg ht
      go_enter Try.func3, Try.ntmps3
      go_wp2_with (first
        | (go_at_call 5; go_in)
        | (go_at_call 6; refine (Z1.out _).mono ?_; rintro e w' ⟨rfl, rfl⟩)
        | (go_at_call 7; refine (Z2.out _).mono ?_; rintro e w' ⟨rfl, rfl⟩)
        | (go_at_call 8; refine (Z3.out _).mono ?_; rintro e w1 ⟨rfl, hbw⟩)
        | (go_at_call 9; refine (Z4.out _).mono ?_; rintro e w' ⟨rfl, rfl⟩))
      go_ret
      exact ⟨rfl, hbw⟩
    · obtain ⟨i, hi⟩ : ∃ i : Nat, idxE t.data.toList = i := ⟨(idxE t.data.toList).toNat, by omega⟩
      have Z3 := Hid.mk' (fun W => zzcut_found s t i W (by omega) ht.symm hi)
      obtain ⟨hil, hN, c, hc, hce⟩ := idx_at hi
      have hil' : i < t.size := hil
      have hti : t[i] = c := by
        have := list_get t i hil'
        rw [hc] at this
        exact (Option.some.inj this).symm
      obtain ⟨M, hM⟩ : ∃ M, t.extract 0 i = M := ⟨_, rfl⟩
      obtain ⟨E, hE⟩ : ∃ E, t.extract (i + 1) t.size = E := ⟨_, rfl⟩
      have hMl : M.data.toList = t.data.toList.take i := by rw [← hM, ext_list]; rfl
      have hMs : M.size = i := by rw [size_list, hMl, List.length_take]; have := size_list t; omega
      have hEs : E.size = t.size - (i + 1) := by rw [size_list, ← hE, ext_list, List.length_drop, List.length_take, size_list]; omega
      have hm := fun W => hasMark_any M W (by unfold maxLen; omega)
      rw [show hasE M = false by unfold hasE; rw [hMl, idx_mkno hN.take]; rfl] at hm
      have Z4 := Hid.mk' hm
      have hb : (((t[i].toNat : Int) == 101) = true) ∨ (((t[i].toNat : Int) == 101) = false ∧ ((t[i].toNat : Int) == 69) = true) := by
        rw [← hti] at hce
        by_cases h1 : t[i] = 101
        · exact Or.inl ((toNat_b _ 101 (by decide)).2 h1)
        · exact Or.inr ⟨by rw [Bool.eq_false_iff]; exact fun e => h1 ((toNat_b _ 101 (by decide)).1 e), (toNat_b _ 69 (by decide)).2 (hce.resolve_left h1)⟩
      have hsum : (t.size : Int) = i + 1 + E.size := by omega
      clear hm hi hpos ht hMl hil hN hc hce hti hEs
      rcases hb with hb | ⟨hb, hb2⟩
      all_goals
        go_enter Try.func3, Try.ntmps3
        go_wp2_with (first
          | (go_at_call 5; go_in)
          | (go_at_call 6; refine (Z1.out _).mono ?_; rintro e w' ⟨rfl, rfl⟩)
          | (go_at_call 7; refine (Z2.out _).mono ?_; rintro e w' ⟨rfl, rfl⟩)
          | (go_at_call 8; refine (Z3.out _).mono ?_; rintro e w1 ⟨rfl, hbw⟩)
          | (go_at_call 9; refine (Z4.out _).mono ?_; rintro e w' ⟨rfl, rfl⟩))
        go_ret
        exact ⟨rfl, hbw⟩
  · have hbig' : (1048576 : Int) < s.size := by omega
    go_enter Try.func3, Try.ntmps3
    go_wp2
    go_ret
    exact ⟨rfl, Below.refl _ _⟩
end Go.Proofs.Qxb6617103a
