import Derived.Test.Qxb6616642aFmtW4
import Derived.Deep.RegionWith
namespace Go.Proofs.Qxb6616642aFmt
open Go.RowKit

def strSize : Value → Nat | .string t => t.size | _ => 0
def fullN (q : Nat) (w : World) : Nat := match w.cell? ⟨q, 2, none⟩ with | some (.int _ n) => if n = 4096 then 1 else 0 | _ => 0
def wsM (q : Nat) (t : Value) (w : World) : Nat := 2 * strSize t + fullN q w

theorem copy_end {N b r q : Nat} {d1 d2 : List UInt8} {w : World} (x : List UInt8) (m : Nat) (hm : x.length = m) (cur : Array Value) (h : BW N b r q d1 d2 w)
    (hrow : w.heap[r]? = some (.cells cur 5 (0, 0))) (hcsz : cur.size = 4096) (htk : cur.toList.take d2.length = Lib.byteCells d2) (hx : d2.length + m ≤ 4096) :
    BW N b r q d1 (d2 ++ x) ((w.setRow r (cur.toList.take d2.length ++ (Lib.byteCells x ++ cur.toList.drop (d2.length + m))).toArray).setCell ⟨q, 2, none⟩ (.int .i64 (d2.length + m))) ∧
    Fr N [b, r, q] w ((w.setRow r (cur.toList.take d2.length ++ (Lib.byteCells x ++ cur.toList.drop (d2.length + m))).toArray).setCell ⟨q, 2, none⟩ (.int .i64 (d2.length + m))) := by
  have hl : cur.toList.length = 4096 := by rw [Array.length_toList]; exact hcsz
  have hxl : (Lib.byteCells x).length = m := by rw [Lib.byteCells_length]; exact hm
  refine ⟨⟨h.hb, h.hr, h.hq, h.hbr, h.hbq, h.hrq, ?_, Buf.setCell (h.buf.carry (setRow_other _ _ _ _ h.hbr) (fun k hk _ => setRow_other _ _ _ _ (by have := h.hr; omega))) h.hq h.hbq _,
    ⟨(cur.toList.take d2.length ++ (Lib.byteCells x ++ cur.toList.drop (d2.length + m))).toArray, ?_, ?_, ?_⟩, by simp; omega, ?_⟩, ((Fr.refl _ _ _).setRow (by simp) _).setCell (by simp) _⟩
  · have := h.hN
    simp [World.setCell]; omega
  · rw [Below.heap_setCell _ _ _ _ h.hrq]; exact setRow_heap w r cur _ 5 _ hrow
  · simp [hxl]; omega
  · rw [htk, List.toList_toArray, List.length_append, ← List.append_assoc]
    rw [List.take_append_of_le_length (by simp [Lib.byteCells_length])]
    rw [List.take_of_length_le (by simp [Lib.byteCells_length])]
    simp [Lib.byteCells]
  · rw [heap_setCell_same ((setRow_other _ _ _ _ (Ne.symm h.hrq)).trans h.st)]; simp [hm]

theorem nop_end {N b r q : Nat} {d1 d2 : List UInt8} {w : World} (h : BW N b r q d1 d2 w) :
    BW N b r q d1 d2 (w.setCell ⟨q, 2, none⟩ (.int .i64 d2.length)) ∧ Fr N [b, r, q] w (w.setCell ⟨q, 2, none⟩ (.int .i64 d2.length)) := by
  obtain ⟨cur, hrow, hcsz, htk⟩ := h.row
  refine ⟨⟨h.hb, h.hr, h.hq, h.hbr, h.hbq, h.hrq, ?_, h.buf.setCell h.hq h.hbq _, ⟨cur, ?_, hcsz, htk⟩, h.hn, ?_⟩, (Fr.refl _ _ _).setCell (by simp) _⟩
  · have := h.hN
    simp [World.setCell]; omega
  · rw [Below.heap_setCell _ _ _ _ h.hrq]; exact hrow
  · rw [heap_setCell_same h.st]; rfl

theorem ret2 {k : IntKind} {a b : Int} {v u : Value} (h : a = b) (hv : v = u) : Ending.returned (.tuple #[.int k a, v]) = .returned (.tuple #[.int k b, u]) := by rw [h, hv]

theorem ws_end {d1 d2 d s T : List UInt8} {k : Nat} (h : d1 ++ d2 = d ++ s.take k) (hT : T = s.drop k) : d1 ++ (d2 ++ T) = d ++ s := by
  rw [← List.append_assoc, h, hT, List.append_assoc, List.take_append_drop]

theorem ws_part {d1 d2 d s T : List UInt8} {k m : Nat} (h : d1 ++ d2 = d ++ s.take k) (hT : T = s.drop k) : d1 ++ (d2 ++ T.take m) = d ++ s.take (k + m) := by
  rw [← List.append_assoc, h, hT, List.append_assoc, List.take_add]

theorem extract_toList (T : ByteArray) (m : Nat) : (T.extract m T.size).data.toList = T.data.toList.drop m ∧ (T.extract m T.size).size = T.size - m := by
  have e : (T.extract m T.size).data.toList = T.data.toList.drop m := by
    rw [ByteArray.data_extract, Array.toList_extract]
    simp only [List.extract_eq_drop_take']
    rw [List.take_of_length_le (by rw [Array.length_toList]; exact Nat.le_refl _)]
  refine ⟨e, ?_⟩
  have : (T.extract m T.size).data.toList.length = (T.extract m T.size).size := rfl
  rw [← this, e, List.length_drop]
  rfl

theorem direct_end {N b r q : Nat} {d1 : List UInt8} {w w2 : World} (x : List UInt8) (h : BW N b r q d1 [] w) (hB : Buf N b (d1 ++ x) w2) (hF0 : Fr N [b] w w2) :
    BW N b r q (d1 ++ x) [] (w2.setCell ⟨q, 0, none⟩ .nilIface) ∧ Fr N [b, r, q] w (w2.setCell ⟨q, 0, none⟩ .nilIface) := by
  have hq2 := (hF0.block q h.hq (by simpa using Ne.symm h.hbq)).trans h.st
  obtain ⟨cur, hrow, hcsz, _⟩ := h.row
  have hr2 := (hF0.block r h.hr (by simpa using Ne.symm h.hbr)).trans hrow
  refine ⟨⟨h.hb, h.hr, h.hq, h.hbr, h.hbq, h.hrq, ?_, hB.setCell h.hq h.hbq _, ⟨cur, ?_, hcsz, by simp [Lib.byteCells]⟩, by simp, ?_⟩, (hF0.mono (by simp)).setCell (by simp) _⟩
  · have := hF0.size
    have := h.hN
    simp [World.setCell]; omega
  · rw [Below.heap_setCell _ _ _ _ h.hrq]; exact hr2
  · rw [heap_setCell_same hq2]; rfl

theorem assert_sw (a : Addr) (w : World) : (Instr.typeAssert (.iface 25 (.pointer (some a))) 58 65 true).run Tryf.prog w = .ok (.tuple #[.iface 25 (.pointer (some a)), .bool true]) w := by kernel_rfl
theorem method_ws (a : Addr) (w : World) : (method 221 25 (.pointer (some a)) "WriteString").run Tryf.prog w = .ok (77, .pointer (some a)) w := by kernel_rfl

theorem fullN_of {N b r q : Nat} {d1 : List UInt8} {w : World} (h : BW N b r q d1 [] w) : fullN q w = 0 := by
  unfold fullN
  rw [h.c2]
  simp

set_option maxHeartbeats 1600000 in
set_option maxRecDepth 100000 in
theorem writeString_any (HW : WriteOk) (HS : WriteStrOk) {N b r q : Nat} {d : List UInt8} (s : ByteArray) (w : World) (h : Wr N b r q d w) (hlim : d.length + s.size ≤ 140737488355328) :
    Calls Tryf.prog 26 #[.pointer (some ⟨q, 0, none⟩), .string s] w fun e w' => e = .returned (.tuple #[.int .i64 s.size, .nilIface]) ∧ Wr N b r q (d ++ s.data.toList) w' ∧ Fr N [b, r, q] w w' := by
  go_enter Tryf.func26, Tryf.ntmps26
  go_wp2
  go_loopw [1, 6, 7, 8] (fun t sw tr nn wr => ∃ (k : Nat) (T : ByteArray), k ≤ s.size ∧ T.data.toList = s.data.toList.drop k ∧ T.size = s.size - k ∧ t = .string T ∧ nn = .int .i64 k ∧ (T.size = 0 ∨ (sw = .nilIface ∧ tr = .bool true)) ∧ Wr N b r q (d ++ s.data.toList.take k) wr ∧ Fr N [b, r, q] w wr)
    (fun t _ _ _ wr => wsM q t wr)
  case atStart => exact ⟨0, s, Nat.zero_le _, rfl, rfl, rfl, rfl, Or.inr ⟨rfl, rfl⟩, by simpa using h, Fr.refl _ _ _⟩
  case round =>
    obtain ⟨k, T, hk, hT, hTs, rfl, rfl, hsw, ⟨d1, d2, hd, hB⟩, hF⟩ := hrel
    have c0 := hB.c0
    have c1 := hB.c1
    have c2 := hB.c2
    have f2 := hB.f 2
    have hn := hB.hn
    by_cases hx : (T.size : Int) ≤ 4096 - (d2.length : Int)
    · by_cases h0 : T.size = 0
      · have hcp : ∀ dd dl dc n, (Builtin.copy_ #[22, 9] 3 #[.slice dd dl dc, .string T]).run Tryf.prog (wr.drewN n) = .ok (goInt 0) (wr.drewN n) := fun dd dl dc n => run_copy_str0 (P := Tryf.prog) (wr.drewN n) 22 9 3 5 dd dl dc T Tryf.underlying22 info5 (by rw [h0]; exact Nat.zero_min _)
        have H := Hid.mk' hB
        have Hd := Hid.mk' hd
        have HF := Hid.mk' hF
        have HT := Hid.mk' hT
        have HTs := Hid.mk' hTs
        clear h hB hd hF hT hTs hsw
        go_wp2_with (go_at_call 34; refine (available_any _ H.out).mono ?_; rintro e w' ⟨rfl, n0, rfl⟩)
        go_region
        all_goals go_wp2
        all_goals (
          go_ret2
          obtain ⟨p1, p2⟩ := nop_end (H.out.drewN (n0 + 1))
          exact ⟨ret2 (by have := HTs.out; omega) rfl, ⟨_, _, ws_end Hd.out HT.out, by rw [List.eq_nil_of_length_eq_zero (show T.data.toList.length = 0 from h0), List.append_nil]; exact p1⟩, (HF.out.drewN _).trans p2⟩)
      · obtain ⟨cur, hrow, hcsz, htk⟩ := hB.row
        have hcp := fun n => run_copy_str (P := Tryf.prog) (wr.drewN n) 22 9 3 5 r d2.length (4096 - d2.length) (4096 - d2.length) T.size T cur 5 Tryf.underlying22 info5 hrow (Nat.min_eq_left (by omega)).symm (by omega)
        rw [List.take_of_length_le (Nat.le_of_eq (show T.data.toList.length = T.size from rfl))] at hcp
        have HE := Hid.mk' (fun n => copy_end T.data.toList T.size rfl cur (hB.drewN n) hrow hcsz htk (by omega))
        have s2 : ∀ n A, ((wr.drewN n).setRow r A).cell? ⟨q, 2, none⟩ = some (.int .i64 d2.length) := fun n A => (World.cell?_of_block (w := wr) (setRow_other _ _ _ _ (Ne.symm hB.hrq))).trans c2
        have sf2 : ∀ n A, ((wr.drewN n).setRow r A).frozen? ⟨q, 2, none⟩ = false := fun n A => (World.frozen?_of_block (w := wr) (setRow_other _ _ _ _ (Ne.symm hB.hrq))).trans f2
        have H := Hid.mk' hB
        have Hd := Hid.mk' hd
        have HF := Hid.mk' hF
        have HT := Hid.mk' hT
        have HTs := Hid.mk' hTs
        have hlt : d2.length < 4096 := by omega
        clear h hB hd hF hT hTs hrow htk hcsz hsw
        go_wp2_with (go_at_call 34; refine (available_any _ H.out).mono ?_; rintro e w' ⟨rfl, n0, rfl⟩)
        go_region
        all_goals (
          go_wp2
          go_ret2
          obtain ⟨p1, p2⟩ := HE.out (n0 + 1)
          exact ⟨ret2 (by have := HTs.out; omega) rfl, ⟨_, _, ws_end Hd.out HT.out, p1⟩, (HF.out.drewN _).trans p2⟩)
    · rcases hsw with h0 | ⟨rfl, rfl⟩
      · omega
      by_cases hz : d2 = []
      · subst hz
        have c3 := hB.c3
        have f0 := hB.f 0
        have H := Hid.mk' hB
        have Hd := Hid.mk' hd
        have HF := Hid.mk' hF
        have HT := Hid.mk' hT
        have HTs := Hid.mk' hTs
        have h1 : 1 ≤ T.size := by have : (([] : List UInt8).length : Int) = 0 := rfl; omega
        have hx2 : (4096 : Int) < T.size := by have : (([] : List UInt8).length : Int) = 0 := rfl; omega
        have hE2 : d1.length + T.size ≤ 140737488355328 := by
            have e1 := congrArg List.length hd
            have e2 : (s.data.toList.take k).length ≤ k := List.length_take_le _ _
            simp only [List.length_append, List.length_nil] at e1
            omega
        have asw := assert_sw
        have mws := method_ws
        clear h hB hd hF hT hTs hx
        go_wp2_with (first
            | (go_at_call 34; refine (available_any _ H.out).mono ?_; rintro e w' ⟨rfl, n0, rfl⟩)
            | (go_at_call 35; refine (buffered_any _ (H.out.drewN n0)).mono ?_; rintro e w' ⟨rfl, rfl⟩)
            | (go_at_call 77; refine (HS N b d1 T _ (H.out.drewN n0).buf H.out.hb H.out.hN h1 hE2).mono ?_; rintro e w2 ⟨rfl, hB2, hF2⟩; refine Hid.out ?_))
        refine Hid.mk' ?_
        have hq2 := (hF2.block q H.out.hq (by simpa using Ne.symm H.out.hbq)).trans (H.out.drewN n0).st
        have dd0 : w2.cell? ⟨q, 0, none⟩ = some .nilIface := by rw [Lib.cell_of_heap hq2]; rfl
        have ee0 : w2.frozen? ⟨q, 0, none⟩ = false := Lib.frozen_of_heap hq2 0
        have HE := Hid.mk' (direct_end T.data.toList (H.out.drewN n0) hB2 hF2)
        clear hq2 hB2 hF2
        go_wp2
        go_roundw
        case rel =>
          have hs0 : s.size - (k + T.size) = 0 := by have := HTs.out; omega
          refine ⟨k + T.size, ByteArray.empty, by have := HTs.out; omega, ?_, hs0.symm, rfl, by go_num, Or.inl rfl, ⟨_, _, ?_, HE.out.1⟩, (HF.out.drewN _).trans HE.out.2⟩
          · rw [List.drop_of_length_le (by show s.size ≤ _; omega)]; rfl
          · have e1 := ws_part (m := T.size) Hd.out HT.out
            rw [List.nil_append, List.take_of_length_le (Nat.le_of_eq (show T.data.toList.length = T.size from rfl))] at e1
            rw [List.append_nil]; exact e1
        case measure =>
          have x2 : ByteArray.empty.size = 0 := rfl
          have x3 := fullN_of HE.out.1
          simp only [wsM, strSize, x2, x3]
          omega
      · obtain ⟨m, hm⟩ : ∃ m, m = 4096 - d2.length := ⟨_, rfl⟩
        have hpos : 0 < d2.length := List.length_pos_iff.2 hz
        have hzz : ¬ ((d2.length : Int) = 0) := by omega
        by_cases hm0 : m = 0
        · have hcp : ∀ dd dc n, (Builtin.copy_ #[22, 9] 3 #[.slice dd 0 dc, .string T]).run Tryf.prog (wr.drewN n) = .ok (goInt 0) (wr.drewN n) := fun dd dc n => run_copy_str0 (P := Tryf.prog) (wr.drewN n) 22 9 3 5 dd 0 dc T Tryf.underlying22 info5 (Nat.min_zero _)
          have hE2 : d1.length + d2.length ≤ 140737488355328 := by
            have e1 := congrArg List.length hd
            have e2 : (s.data.toList.take k).length ≤ k := List.length_take_le _ _
            simp only [List.length_append] at e1
            omega
          have hE := Hid.mk' (fun n => nop_end (hB.drewN n))
          have H := Hid.mk' hB
          have Hd := Hid.mk' hd
          have HF := Hid.mk' hF
          have HT := Hid.mk' hT
          have HTs := Hid.mk' hTs
          have hge : 4096 ≤ d2.length := by omega
          have hfull : fullN q wr = 1 := by
            unfold fullN
            rw [c2, show (d2.length : Int) = 4096 by omega]
            rfl
          have HL := Hid.mk' hfull
          clear h hB hd hF hT hTs hm hm0 hfull
          go_wp2_with (first
            | (go_at_call 34; refine (available_any _ H.out).mono ?_; rintro e w' ⟨rfl, n0, rfl⟩)
            | (go_at_call 35; refine (buffered_any _ (H.out.drewN n0)).mono ?_; rintro e w' ⟨rfl, rfl⟩))
          go_region
          all_goals (
            go_wp2_with (go_at_call 28; refine (flush_some HW _ (hE.out (n0 + 1)).1 hpos hE2).mono ?_; rintro e w1 ⟨rfl, hB1, hF1⟩)
            go_roundw
            case rel =>
              exact ⟨k, T, hk, HT.out, HTs.out, rfl, rfl, Or.inr ⟨rfl, rfl⟩, ⟨_, _, by rw [List.append_nil]; exact Hd.out, hB1⟩, ((HF.out.drewN _).trans (hE.out (n0 + 1)).2).trans (hF1.mono (by simp))⟩
            case measure =>
              have x3 := fullN_of hB1
              simp only [wsM, strSize, x3, HL.out]
              omega)
        · obtain ⟨cur, hrow, hcsz, htk⟩ := hB.row
          have hcp := fun n => run_copy_str (P := Tryf.prog) (wr.drewN n) 22 9 3 5 r d2.length (4096 - d2.length) (4096 - d2.length) m T cur 5 Tryf.underlying22 info5 hrow (by rw [hm]; exact (Nat.min_eq_right (by omega)).symm) (by omega)
          have htl : (T.data.toList.take m).length = m := by
            rw [List.length_take]
            have : T.data.toList.length = T.size := rfl
            omega
          have HE := Hid.mk' (fun n => copy_end (T.data.toList.take m) m htl cur (hB.drewN n) hrow hcsz htk (by omega))
          have s2 : ∀ n A, ((wr.drewN n).setRow r A).cell? ⟨q, 2, none⟩ = some (.int .i64 d2.length) := fun n A => (World.cell?_of_block (w := wr) (setRow_other _ _ _ _ (Ne.symm hB.hrq))).trans c2
          have sf2 : ∀ n A, ((wr.drewN n).setRow r A).frozen? ⟨q, 2, none⟩ = false := fun n A => (World.frozen?_of_block (w := wr) (setRow_other _ _ _ _ (Ne.symm hB.hrq))).trans f2
          have hE1 : 1 ≤ (d2 ++ T.data.toList.take m).length := by rw [List.length_append]; omega
          have hE2 : d1.length + (d2 ++ T.data.toList.take m).length ≤ 140737488355328 := by
            have e1 := congrArg List.length hd
            have e2 : (s.data.toList.take k).length ≤ k := List.length_take_le _ _
            simp only [List.length_append] at e1 ⊢
            omega
          have HE1 := Hid.mk' hE1
          have HE2 := Hid.mk' hE2
          have H := Hid.mk' hB
          have Hd := Hid.mk' hd
          have HF := Hid.mk' hF
          have HT := Hid.mk' hT
          have HTs := Hid.mk' hTs
          have Hm := Hid.mk' hm
          have hlt : d2.length < 4096 := by omega
          have hmb : m ≤ 4096 := by omega
          have hmT : m ≤ T.size := by omega
          clear h hB hd hF hT hTs hrow htk hcsz hm htl hE1 hE2
          go_wp2_with (first
            | (go_at_call 34; refine (available_any _ H.out).mono ?_; rintro e w' ⟨rfl, n0, rfl⟩)
            | (go_at_call 35; refine (buffered_any _ (H.out.drewN n0)).mono ?_; rintro e w' ⟨rfl, rfl⟩))
          go_region
          all_goals (
            go_wp2_with (go_at_call 28; refine (flush_some HW _ (HE.out (n0 + 1)).1 HE1.out HE2.out).mono ?_; rintro e w1 ⟨rfl, hB1, hF1⟩)
            go_roundw
            case rel =>
              obtain ⟨x1, x2⟩ := extract_toList T m
              refine ⟨k + m, T.extract m T.size, by have := HTs.out; omega, ?_, by have := HTs.out; omega, rfl, by go_num, Or.inr ⟨rfl, rfl⟩, ⟨_, _, ?_, hB1⟩, ((HF.out.drewN _).trans (HE.out (n0 + 1)).2).trans (hF1.mono (by simp))⟩
              · rw [x1, HT.out, List.drop_drop]
              · rw [List.append_nil]; exact ws_part Hd.out HT.out
            case measure =>
              have x2 := (extract_toList T m).2
              have x3 := fullN_of hB1
              simp only [wsM, strSize, x2, x3]
              omega)
end Go.Proofs.Qxb6616642aFmt
