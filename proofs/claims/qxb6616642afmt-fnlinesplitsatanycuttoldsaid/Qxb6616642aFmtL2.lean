import Derived.Test.Qxb6616642aFmtL1
namespace Go.Proofs.Qxb6616642aFmt
open Go.RowKit

theorem indexByte_neg (l : List UInt8) (c : UInt8) (h : Lib.indexByte l c < 0) : ∀ x ∈ l, x ≠ c := by
  induction l with
  | nil => simp
  | cons b l ih =>
    unfold Lib.indexByte at h
    by_cases hb : (b == c) = true
    · rw [if_pos hb] at h; omega
    · rw [if_neg hb] at h
      by_cases hi : (Lib.indexByte l c == -1) = true
      · intro x hx
        rcases List.mem_cons.1 hx with rfl | hx
        · simpa using hb
        · exact ih (by have : Lib.indexByte l c = -1 := by simpa using hi
                       omega) x hx
      · rw [if_neg hi] at h
        have h1 := Lib.indexByte_ge l c
        have h2 : Lib.indexByte l c ≠ -1 := by simpa using hi
        omega

theorem clean_id (l : List UInt8) (h13 : Lib.indexByte l 13 < 0) (h10 : Lib.indexByte l 10 < 0) : l.map clean = l := by
  have a := indexByte_neg l 13 h13
  have b := indexByte_neg l 10 h10
  rw [List.map_congr_left (g := id)]
  · simp
  · intro x hx
    simp [clean, a x hx, b x hx]

theorem toNat_eq_iff (c : UInt8) (n : Nat) (h : n < 256) : ((c.toNat : Int) = n) ↔ c = UInt8.ofNat n := by
  constructor
  · intro e
    have e' : c.toNat = n := by omega
    rw [← e', UInt8.ofNat_toNat]
  · rintro rfl
    simp [UInt8.toNat_ofNat_of_lt' h]

theorem take_clean (s : ByteArray) (k : Nat) (h : k < s.size) : (s.data.toList.take (k + 1)).map clean = (s.data.toList.take k).map clean ++ [clean s[k]] := by
  have h' : k < s.data.toList.length := h
  rw [List.take_succ_eq_append_getElem h', List.map_append]; rfl

theorem clean_space (c : UInt8) (h : (c.toNat : Int) = 13 ∨ (c.toNat : Int) = 10) : clean c = 32 := by
  have : c = 13 ∨ c = 10 := h.imp (fun e => (toNat_eq_iff c 13 (by decide)).1 e) (fun e => (toNat_eq_iff c 10 (by decide)).1 e)
  unfold clean
  rw [if_pos this]

theorem clean_same (c : UInt8) (h1 : ¬ (c.toNat : Int) = 13) (h2 : ¬ (c.toNat : Int) = 10) : clean c = c := by
  have : ¬ (c = 13 ∨ c = 10) := by
    rintro (rfl | rfl)
    · exact h1 rfl
    · exact h2 rfl
  unfold clean
  rw [if_neg this]

set_option maxHeartbeats 1600000 in
set_option maxRecDepth 100000 in
theorem line_loop {N b r q p : Nat} (c : UInt8) (s : ByteArray) (w : World) (h : Wr N b r q [] w) (hR : RW p q w) (hp : p < N) (hpb : p ∉ [b, r, q])
    (hlim : s.size ≤ 1048576) (hno : ¬ Lib.indexByte s.data.toList 13 < 0 ∨ (Lib.indexByte s.data.toList 13 < 0 ∧ ¬ Lib.indexByte s.data.toList 10 < 0)) :
    Calls Tryf.prog 37 #[.pointer (some ⟨p, 0, none⟩), .int .u8 c.toNat, .string s] w fun e w' => e = .returned .nilIface ∧ Wr N b r q (c :: s.data.toList.map clean ++ [13, 10]) w' ∧ Fr N [b, r, q] w w' := by
  have cp := hR.c
  have HR := Hid.mk' hR
  have H := Hid.mk' h
  have Hp := Hid.mk' hpb
  clear hR h hpb
  rcases hno with h13 | ⟨h13, h10⟩
  all_goals
    go_enter Tryf.func37, Tryf.ntmps37
    go_wp2_with (go_at_call 42; refine (writeByte_val c _ rfl _ H.out (by simp)).mono ?_; rintro e w1 ⟨rfl, hW1, hF1⟩; refine Hid.out ?_)
    refine Hid.mk' ?_
    have hR1 := HR.out.fr hF1 hp Hp.out
    have cp1 := hR1.c
    have HW1 := Hid.mk' hW1
    have HF1 := Hid.mk' hF1
    have HR1 := Hid.mk' hR1
    clear hW1 hF1 hR1 cp
    go_wp2_with (go_at_call 43; refine (Tryf.strings_IndexByte _ _ _).mono ?_; rintro e w' ⟨rfl, rfl⟩)
    go_loopw [7, 8] (fun i _ wr => ∃ k : Nat, k ≤ s.size ∧ i = .int .i64 k ∧ Wr N b r q (c :: (s.data.toList.take k).map clean) wr ∧ RW p q wr ∧ Fr N [b, r, q] w wr) (fun i _ _ => s.size - (intOf i).toNat)
    case atStart => exact ⟨0, Nat.zero_le _, rfl, HW1.out, HR1.out, HF1.out⟩
    case round =>
      obtain ⟨k, hk, rfl, hW, hRr, hF⟩ := hrel
      have cpr := hRr.c
      have HWr := Hid.mk' hW
      have HRr := Hid.mk' hRr
      have HFr := Hid.mk' hF
      clear hW hRr hF cp1
      by_cases hlt : k < s.size
      · have hlw : (c :: (s.data.toList.take k).map clean).length ≤ 140737488355328 := by
          simp only [List.length_cons, List.length_map, List.length_take]
          omega
        by_cases hc : (s[k].toNat : Int) = 13 ∨ (s[k].toNat : Int) = 10
        · have HS := Hid.mk' (clean_space _ hc)
          have hb : (((s[k].toNat : Int) == 13) = true) ∨ (((s[k].toNat : Int) == 13) = false ∧ ((s[k].toNat : Int) == 10) = true) := by
            by_cases h1 : (s[k].toNat : Int) = 13
            · exact Or.inl (by rw [h1]; rfl)
            · exact Or.inr ⟨by simpa using h1, by rcases hc with hc | hc
                                                  · exact absurd hc h1
                                                  · rw [hc]; rfl⟩
          clear hc
          rcases hb with hb | ⟨hb, hb2⟩
          all_goals
            go_wp2_with (go_at_call 42; refine (writeByte_val 32 _ rfl _ HWr.out hlw).mono ?_; rintro e w2 ⟨rfl, hW2, hF2⟩)
            go_roundw
            case rel =>
              refine ⟨k + 1, by omega, by go_num, ?_, HRr.out.fr hF2 hp Hp.out, HFr.out.trans hF2⟩
              rw [take_clean s k hlt, HS.out]; exact hW2
            case measure => simp [intOf]; omega
        · have h1 : ¬ (s[k].toNat : Int) = 13 := fun e => hc (Or.inl e)
          have h2 : ¬ (s[k].toNat : Int) = 10 := fun e => hc (Or.inr e)
          have HS := Hid.mk' (clean_same _ h1 h2)
          have hb1 : ((s[k].toNat : Int) == 13) = false := by simpa using h1
          have hb2 : ((s[k].toNat : Int) == 10) = false := by simpa using h2
          clear hc h1 h2
          go_wp2_with (go_at_call 42; refine (writeByte_val s[k] _ rfl _ HWr.out hlw).mono ?_; rintro e w2 ⟨rfl, hW2, hF2⟩)
          go_roundw
          case rel =>
            refine ⟨k + 1, by omega, by go_num, ?_, HRr.out.fr hF2 hp Hp.out, HFr.out.trans hF2⟩
            rw [take_clean s k hlt, HS.out]; exact hW2
          case measure => simp [intOf]; omega
      · have hl2 : (c :: (s.data.toList.take k).map clean).length + (⟨#[13, 10]⟩ : ByteArray).size ≤ 140737488355328 := by
          simp only [List.length_cons, List.length_map, List.length_take]
          show _ + 2 ≤ _
          omega
        go_wp2_with (first
          | (go_at_call 26; refine (writeString_any write_ok writeStr_ok ⟨#[13, 10]⟩ _ HWr.out hl2).mono ?_; rintro e w3 ⟨rfl, hW3, hF3⟩)
          | (go_at_call 27; refine (check_nil _ _).mono ?_; rintro e w' ⟨rfl, rfl⟩))
        go_ret
        refine ⟨rfl, ?_, HFr.out.trans hF3⟩
        rw [List.take_of_length_le (by show s.size ≤ k; omega)] at hW3
        exact hW3

theorem line_any {N b r q p : Nat} (c : UInt8) (s : ByteArray) (w : World) (h : Wr N b r q [] w) (hR : RW p q w) (hp : p < N) (hpb : p ∉ [b, r, q])
    (hlim : s.size ≤ 1048576) :
    Calls Tryf.prog 37 #[.pointer (some ⟨p, 0, none⟩), .int .u8 c.toNat, .string s] w fun e w' => e = .returned .nilIface ∧ Wr N b r q (c :: s.data.toList.map clean ++ [13, 10]) w' ∧ Fr N [b, r, q] w w' := by
  by_cases h13 : Lib.indexByte s.data.toList 13 < 0
  · by_cases h10 : Lib.indexByte s.data.toList 10 < 0
    · rw [clean_id _ h13 h10]
      exact line_plain c s w h hR hp hpb hlim h13 h10
    · exact line_loop c s w h hR hp hpb hlim (Or.inr ⟨h13, h10⟩)
  · exact line_loop c s w h hR hp hpb hlim (Or.inl h13)
end Go.Proofs.Qxb6616642aFmt
