import Derived.Test.Qxb6616642aFmtN3
import Derived.Laws.IdiomStrings
namespace Go.Proofs.Qxb6616642aFmt
open Go.RowKit

section
variable {B g cap : Nat} {c : UInt8} {s : ByteArray} {w : World}
theorem fr0 (h : Bts B (c :: s.data.toList.map clean ++ [13, 10]) g cap w) : w.cell? ⟨g, 0, none⟩ = some (.int .u8 c.toNat) := h.cell 0 (by simp)
theorem frj (h : Bts B (c :: s.data.toList.map clean ++ [13, 10]) g cap w) (j : Nat) (hj : j < s.size) : w.cell? ⟨g, j + 1, none⟩ = some (.int .u8 (clean s[j]).toNat) := by
  have hj' : j < s.data.toList.length := hj
  have h1 : j + 1 < (c :: s.data.toList.map clean ++ [13, 10]).length := by simp; omega
  rw [h.cell (j + 1) h1]
  simp only [List.cons_append, List.getElem_cons_succ]
  rw [List.getElem_append_left (by simpa using hj'), List.getElem_map]
  rfl
theorem frcr (h : Bts B (c :: s.data.toList.map clean ++ [13, 10]) g cap w) : w.cell? ⟨g, s.size + 1, none⟩ = some (.int .u8 13) := by
  have hl : (s.data.toList.map clean).length = s.size := by rw [List.length_map]; rfl
  have h1 : s.size + 1 < (c :: s.data.toList.map clean ++ [13, 10]).length := by simp [hl]
  rw [h.cell (s.size + 1) h1]
  simp only [List.cons_append, List.getElem_cons_succ]
  rw [List.getElem_append_right (by omega)]
  simp [hl]
theorem frlf (h : Bts B (c :: s.data.toList.map clean ++ [13, 10]) g cap w) : w.cell? ⟨g, s.size + 2, none⟩ = some (.int .u8 10) := by
  have hl : (s.data.toList.map clean).length = s.size := by rw [List.length_map]; rfl
  have h1 : s.size + 2 < (c :: s.data.toList.map clean ++ [13, 10]).length := by simp [hl]
  rw [h.cell (s.size + 2) h1]
  simp only [List.cons_append, List.getElem_cons_succ]
  rw [List.getElem_append_right (by omega)]
  simp [hl]
theorem frcap (h : Bts B (c :: s.data.toList.map clean ++ [13, 10]) g cap w) : s.size + 3 ≤ cap ∧ cap ≤ 9223372036854775807 := by
  have hl : (s.data.toList.map clean).length = s.size := by rw [List.length_map]; rfl
  obtain ⟨_, h2, h3, _⟩ := h
  simp [hl] at h2
  exact ⟨by omega, h3⟩
end

theorem clean_clean (c : UInt8) : clean (clean c) = clean c := by
  unfold clean
  by_cases h : c = 13 ∨ c = 10
  · rw [if_pos h]; decide
  · rw [if_neg h, if_neg h]

set_option maxHeartbeats 1600000 in
set_option maxRecDepth 100000 in
theorem law6 (c : UInt8) (s : ByteArray) (w : World) (hs : s.size ≤ maxLen) :
    Calls Tryf.prog 6 #[.int .u8 c.toNat, .string s] w fun e w' => e = .returned (.bool true) ∧ Below w.heap.size w w' := by
  unfold maxLen at hs
  by_cases hbig : s.size ≤ 1048576
  · have hbig' : (s.size : Int) ≤ 1048576 := by omega
    go_enter Tryf.func6, Tryf.ntmps6
    go_wp2_with (first
      | (go_at_call 20; go_in)
      | (go_at_call 21; refine (zzline_any c s _ hbig).mono ?_; rintro e w1 ⟨g, cap, rfl, hbt, hb⟩; refine Hid.out ?_))
    refine Hid.mk' ?_
    have k0 := fr0 hbt
    have k1 := frcr hbt
    have k2 := frlf hbt
    obtain ⟨hc1, hc2⟩ := frcap hbt
    have HB := Hid.mk' hbt
    have Hb := Hid.mk' hb
    clear hbt hb
    go_wp2
    go_loop [7, 8, 9] (fun i _ _ => ∃ k : Nat, k ≤ s.size ∧ i = .int .i64 k) (fun i _ _ => s.size - (intOf i).toNat)
    case atStart => exact ⟨0, Nat.zero_le _, rfl⟩
    case round =>
      obtain ⟨k, hk, rfl⟩ := hrel
      by_cases hlt : k < s.size
      · have kj := frj HB.out k hlt
        by_cases hc : (s[k].toNat : Int) = 13 ∨ (s[k].toNat : Int) = 10
        · rw [clean_space _ hc] at kj
          have hb : (((s[k].toNat : Int) == 13) = true) ∨ (((s[k].toNat : Int) == 13) = false ∧ ((s[k].toNat : Int) == 10) = true) := by
            by_cases h1 : (s[k].toNat : Int) = 13
            · exact Or.inl (by rw [h1]; rfl)
            · exact Or.inr ⟨by simpa using h1, by rcases hc with hc | hc
                                                  · exact absurd hc h1
                                                  · rw [hc]; rfl⟩
          have kj' : w1.cell? ⟨g, 1 + k, none⟩ = some (.int .u8 32) := by rw [Nat.add_comm]; exact kj
          clear hc kj
          rcases hb with hb | ⟨hb, hb2⟩
          all_goals
            go_wp2
            go_round
            case rel => exact ⟨k + 1, by omega, by go_num⟩
            case measure => simp [intOf]; omega
        · have h1 : ¬ (s[k].toNat : Int) = 13 := fun e => hc (Or.inl e)
          have h2 : ¬ (s[k].toNat : Int) = 10 := fun e => hc (Or.inr e)
          rw [clean_same _ h1 h2] at kj
          have hb1 : ((s[k].toNat : Int) == 13) = false := by simpa using h1
          have hb2 : ((s[k].toNat : Int) == 10) = false := by simpa using h2
          have kj' : w1.cell? ⟨g, 1 + k, none⟩ = some (.int .u8 s[k].toNat) := by rw [Nat.add_comm]; exact kj
          clear hc h1 h2 kj
          go_wp2
          go_round
          case rel => exact ⟨k + 1, by omega, by go_num⟩
          case measure => simp [intOf]; omega
      · have hlm : (s.data.toList.map clean).length = s.size := by rw [List.length_map]; rfl
        have hcv := run_convert_bytes_back (P := Tryf.prog) w1 22 9 5 ⟨g, 1, none⟩ (cap - 1) (s.data.toList.map clean) Tryf.underlying22 Tryf.underlying5 Tryf.underlying9 (fun j hj => by
          have hj' : j < s.size := by rw [← hlm]; exact hj
          have ha : (⟨g, 1, none⟩ : Addr).add j = ⟨g, j + 1, none⟩ := by rw [Nat.add_comm]; unfold Addr.add; split <;> simp_all
          rw [ha, frj HB.out j hj', List.getElem_map]
          rfl)
        rw [hlm] at hcv
        obtain ⟨M, hM⟩ : ∃ M : ByteArray, M = ⟨(s.data.toList.map clean).toArray⟩ := ⟨_, rfl⟩
        rw [← hM] at hcv
        have hMs : M.size = s.size := by rw [hM]; show (List.map clean s.data.toList).toArray.size = _; simp
        have hz := zzline_any c M w1 (by omega)
        rw [hMs, show M.data.toList.map clean = s.data.toList.map clean by rw [hM]; simp [clean_clean]] at hz
        have HZ := Hid.mk' hz
        have hlF : (c :: s.data.toList.map clean ++ [13, 10]).length = s.size + 3 := by simp
        have HL := Hid.mk' hlF
        clear hz hM hMs hlm hlF
        go_wp2_with (go_at_call 21; refine HZ.out.mono ?_; rintro e w2 ⟨g2, cap2, rfl, hbt2, hb2⟩; refine Hid.out ?_)
        refine Hid.mk' ?_
        have HB2 := Hid.mk' hbt2
        have HB1 := Hid.mk' (HB.out.below hb2 (Nat.le_refl _))
        have Hb2 := Hid.mk' hb2
        clear hbt2 hb2
        go_wp2_with (go_at_call 13; refine (zzeq_true g2 g (s.size + 3) cap2 cap _ w2 HL.out (by omega) HB2.out.cell HB1.out.cell).mono ?_; rintro e w3 ⟨rfl, m, rfl⟩)
        go_ret
        refine ⟨rfl, Hb.out.trans ?_⟩
        have h3 := Hb2.out.mono Hb.out.size
        exact ⟨h3.os, h3.tape, h3.output, h3.size, h3.block⟩
  · have hbig' : (1048576 : Int) < s.size := by omega
    go_enter Tryf.func6, Tryf.ntmps6
    go_wp2
    go_ret
    exact ⟨rfl, Below.refl _ _⟩
end Go.Proofs.Qxb6616642aFmt
