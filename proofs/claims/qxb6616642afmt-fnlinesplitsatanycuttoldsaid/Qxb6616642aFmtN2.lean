import Derived.Test.Qxb6616642aFmtN1
namespace Go.Proofs.Qxb6616642aFmt
open Go.RowKit

/-- A slice of bytes that holds d, at the head of a row from block N on. -/
def Bts (N : Nat) (d : List UInt8) (g cap : Nat) (w : World) : Prop :=
  N ≤ g ∧ d.length ≤ cap ∧ cap ≤ maxLen ∧ ∃ cur, w.heap[g]? = some (.cells cur 5 (0, 0)) ∧ cur.size = cap ∧ cur.toList.take d.length = Lib.byteCells d

theorem Bts.lt {N : Nat} {d : List UInt8} {g cap : Nat} {w : World} (h : Bts N d g cap w) : g < w.heap.size := by
  obtain ⟨_, _, _, cur, hg, _⟩ := h
  exact (Array.getElem?_eq_some_iff.1 hg).1

theorem Bts.below {N B : Nat} {d : List UInt8} {g cap : Nat} {w w' : World} (h : Bts N d g cap w) (hb : Below B w w') (hB : w.heap.size ≤ B) : Bts N d g cap w' := by
  have hlt := h.lt
  obtain ⟨h1, h2, h3, cur, hg, r⟩ := h
  exact ⟨h1, h2, h3, cur, (hb.block g (by omega)).trans hg, r⟩

theorem Bts.drewN {N : Nat} {d : List UInt8} {g cap : Nat} {w : World} (h : Bts N d g cap w) (n : Nat) : Bts N d g cap (w.drewN n) := h

theorem Bts.cell {N : Nat} {d : List UInt8} {g cap : Nat} {w : World} (h : Bts N d g cap w) (j : Nat) (hj : j < d.length) : w.cell? ⟨g, j, none⟩ = some (.int .u8 d[j].toNat) := by
  obtain ⟨_, _, _, cur, hg, _, htk⟩ := h
  rw [Lib.cell_of_heap hg]
  have h2 : (cur.toList.take d.length)[j]? = (Lib.byteCells d)[j]? := by rw [htk]
  rw [List.getElem?_take, if_pos hj] at h2
  rw [← Array.getElem?_toList, h2]
  simp [Lib.byteCells, hj]

set_option maxHeartbeats 1600000 in
set_option maxRecDepth 100000 in
theorem bytes_any {N b : Nat} {d : List UInt8} (w : World) (h : Buf N b d w) (hd : d ≠ []) :
    Calls Tryf.prog 29 #[.pointer (some ⟨b, 0, none⟩)] w fun e w' => ∃ g cap, e = .returned (.slice (some ⟨g, 0, none⟩) d.length cap) ∧ Bts N d g cap w' ∧ ∃ n, w' = w.drewN n := by
  obtain ⟨lr, ⟨rfl, hbk⟩ | ⟨g, cap, cur, hbk, hNg, hg, h1, hlc, hcm, hcs, htk⟩⟩ := h
  · exact absurd rfl hd
  · have c0 : w.cell? ⟨b, 0, none⟩ = some (.slice (some ⟨g, 0, none⟩) d.length cap) := by rw [Lib.cell_of_heap hbk]; rfl
    have c1 : w.cell? ⟨b, 1, none⟩ = some (.int .i64 0) := by rw [Lib.cell_of_heap hbk]; rfl
    have H := Hid.mk' (show Bts N d g cap w from ⟨hNg, hlc, hcm, cur, hg, hcs, htk⟩)
    have hc0 : ¬ cap = 0 := by omega
    unfold maxLen at hcm
    clear hbk hg htk hcs
    go_enter Tryf.func29, Tryf.ntmps29
    go_wp2
    go_quiet (fail)
    go_wp2
    go_ret
    exact ⟨g, cap, rfl, H.out.drewN _, _, rfl⟩

set_option maxHeartbeats 1600000 in
set_option maxRecDepth 100000 in
theorem zzl_any {N b r q p : Nat} (c : UInt8) (s : ByteArray) (w : World) (h : Wr N b r q [] w) (hR : RW p q w) (hp : p < N) (hpb : p ∉ [b, r, q])
    (hlim : s.size ≤ 1048576) :
    Calls Tryf.prog 30 #[.pointer (some ⟨p, 0, none⟩), .int .u8 c.toNat, .string s] w fun e w' => e = .returned .nilIface ∧ Wr N b r q (c :: s.data.toList.map clean ++ [13, 10]) w' ∧ Fr N [b, r, q] w w' := by
  have H := Hid.mk' h
  have HR := Hid.mk' hR
  have Hp := Hid.mk' hpb
  clear h hR hpb
  go_enter Tryf.func30, Tryf.ntmps30
  go_wp2_with (go_at_call 37; refine (line_any c s _ H.out HR.out hp Hp.out hlim).mono ?_; rintro e w2 ⟨rfl, hW, hF⟩)
  go_ret
  exact ⟨rfl, hW, hF⟩

set_option maxHeartbeats 1600000 in
set_option maxRecDepth 100000 in
theorem zzflushed_any {N b r q p : Nat} {d : List UInt8} (w : World) (h : Wr N b r q d w) (hR : RW p q w) (hd : d ≠ []) (hlim : d.length ≤ 140737488355328) :
    Calls Tryf.prog 11 #[.pointer (some ⟨p, 0, none⟩), .pointer (some ⟨b, 0, none⟩)] w fun e w' => ∃ g cap, e = .returned (.slice (some ⟨g, 0, none⟩) d.length cap) ∧ Bts N d g cap w' ∧ Fr N [b, r, q] w w' := by
  have cp := hR.c
  have H := Hid.mk' h
  have HD := Hid.mk' hd
  clear h hR hd
  go_enter Tryf.func11, Tryf.ntmps11
  go_wp2_with (go_at_call 28; refine (flush_any write_ok _ H.out hlim).mono ?_; rintro e w2 ⟨rfl, hB, hF⟩; refine Hid.out ?_)
  refine Hid.mk' ?_
  have HB := Hid.mk' hB
  have HF := Hid.mk' hF
  clear hB hF
  go_wp2_with (go_at_call 29; refine (bytes_any _ HB.out.buf HD.out).mono ?_; rintro e w3 ⟨g, cap, rfl, hbt, n, rfl⟩)
  go_ret
  exact ⟨g, cap, rfl, hbt, HF.out.drewN n⟩

set_option maxHeartbeats 1600000 in
set_option maxRecDepth 100000 in
theorem zzline_any (c : UInt8) (s : ByteArray) (w : World) (hlim : s.size ≤ 1048576) :
    Calls Tryf.prog 21 #[.int .u8 c.toNat, .string s] w fun e w' => ∃ g cap, e = .returned (.tuple #[.slice (some ⟨g, 0, none⟩) (s.size + 3) cap, .bool true]) ∧ Bts w.heap.size (c :: s.data.toList.map clean ++ [13, 10]) g cap w' ∧ Below w.heap.size w w' := by
  have hlen : (c :: s.data.toList.map clean ++ [13, 10]).length = s.size + 3 := by
    simp only [List.length_append, List.length_cons, List.length_map, List.length_nil]
    show s.size + 1 + 2 = _
    rfl
  have hl2 : (c :: s.data.toList.map clean ++ [13, 10]).length ≤ 140737488355328 := by omega
  clear hlen
  go_enter Tryf.func21, Tryf.ntmps21
  go_wp2_with (go_at_call 9; refine (zznew_any _).mono ?_; rintro e w1 ⟨rfl, hB, hR, hb⟩; refine Hid.out ?_)
  refine Hid.mk' ?_
  have HB := Hid.mk' (show Wr (w.heap.size + 4) w.heap.size (w.heap.size + 1) (w.heap.size + 2) [] w1 from ⟨[], [], rfl, hB⟩)
  have HR := Hid.mk' hR
  have Hb := Hid.mk' hb
  clear hB hR hb
  go_wp2_with (go_at_call 30; refine (zzl_any c s _ HB.out HR.out (by omega) (by simp) hlim).mono ?_; rintro e w2 ⟨rfl, hW, hF⟩; refine Hid.out ?_)
  refine Hid.mk' ?_
  have HW := Hid.mk' hW
  have HF := Hid.mk' hF
  have HR2 := Hid.mk' (HR.out.fr hF (by omega) (by simp))
  clear hW hF
  go_wp2_with (go_at_call 11; refine (zzflushed_any _ HW.out HR2.out (by simp) hl2).mono ?_; rintro e w3 ⟨g, cap, rfl, hbt, hF3⟩)
  go_ret2
  refine ⟨g, cap, rfl, ?_, ?_⟩
  · obtain ⟨k1, k2⟩ := hbt
    exact ⟨by omega, k2⟩
  · exact Hb.out.trans ((HF.out.trans hF3).toBelow (by omega) (by simp))
end Go.Proofs.Qxb6616642aFmt
