import Derived.Test.Qxb6616642aFmtW5
import Derived.Test.Qxb6616642aFmtG3
namespace Go.Proofs.Qxb6616642aFmt
open Go.RowKit

def clean (c : UInt8) : UInt8 := if c = 13 ∨ c = 10 then 32 else c

theorem writeByte_val {N b r q : Nat} {d : List UInt8} (c : UInt8) (v : Int) (hv : v = c.toNat) (w : World) (h : Wr N b r q d w) (hlim : d.length ≤ 140737488355328) :
    Calls Tryf.prog 42 #[.pointer (some ⟨q, 0, none⟩), .int .u8 v] w fun e w' => e = .returned .nilIface ∧ Wr N b r q (d ++ [c]) w' ∧ Fr N [b, r, q] w w' := by
  subst hv
  exact writeByte_any write_ok c w h hlim

/-- A resp.Writer in block p over the bufio.Writer. -/
def RW (p q : Nat) (w : World) : Prop := w.heap[p]? = some (.cells #[.pointer (some ⟨q, 0, none⟩)] 51 (0, 0))

theorem RW.fr {N b r q p : Nat} {w w' : World} (h : RW p q w) (hF : Fr N [b, r, q] w w') (hp : p < N) (hpb : p ∉ [b, r, q]) : RW p q w' := (hF.block p hp hpb).trans h

theorem RW.c {p q : Nat} {w : World} (h : RW p q w) : w.cell? ⟨p, 0, none⟩ = some (.pointer (some ⟨q, 0, none⟩)) := by rw [Lib.cell_of_heap h]; rfl

theorem check_nil (a : Addr) (w : World) : Calls Tryf.prog 27 #[.pointer (some a), .nilIface] w fun e w' => e = .returned .nilIface ∧ w' = w := by
  go_enter Tryf.func27, Tryf.ntmps27
  go_wp2
  go_ret
  exact ⟨rfl, rfl⟩

set_option maxHeartbeats 3200000 in
set_option maxRecDepth 100000 in
theorem line_plain {N b r q p : Nat} (c : UInt8) (s : ByteArray) (w : World) (h : Wr N b r q [] w) (hR : RW p q w) (hp : p < N) (hpb : p ∉ [b, r, q])
    (hlim : s.size ≤ 1048576) (h13 : Lib.indexByte s.data.toList 13 < 0) (h10 : Lib.indexByte s.data.toList 10 < 0) :
    Calls Tryf.prog 37 #[.pointer (some ⟨p, 0, none⟩), .int .u8 c.toNat, .string s] w fun e w' => e = .returned .nilIface ∧ Wr N b r q (c :: s.data.toList ++ [13, 10]) w' ∧ Fr N [b, r, q] w w' := by
  have cp := hR.c
  have HR := Hid.mk' hR
  have H := Hid.mk' h
  have Hp := Hid.mk' hpb
  clear hR h hpb
  go_enter Tryf.func37, Tryf.ntmps37
  go_wp2_with (go_at_call 42; refine (writeByte_val c _ rfl _ H.out (by simp)).mono ?_; rintro e w1 ⟨rfl, hW1, hF1⟩; refine Hid.out ?_)
  refine Hid.mk' ?_
  have hR1 := HR.out.fr hF1 hp Hp.out
  have cp1 := hR1.c
  have HW1 := Hid.mk' hW1
  have HF1 := Hid.mk' hF1
  have HR1 := Hid.mk' hR1
  clear hW1 hF1 hR1
  go_wp2_with (first
    | (go_at_call 43; refine (Tryf.strings_IndexByte _ _ _).mono ?_; rintro e w' ⟨rfl, rfl⟩)
    | (go_at_call 26; refine (writeString_any write_ok writeStr_ok s _ HW1.out (by simp; omega)).mono ?_; rintro e w2 ⟨rfl, hW2, hF2⟩; refine Hid.out ?_))
  refine Hid.mk' ?_
  have hR2 := HR1.out.fr hF2 hp Hp.out
  have cp2 := hR2.c
  have HW2 := Hid.mk' hW2
  have HF2 := Hid.mk' hF2
  clear hW2 hF2 hR2
  have hl2 : ([c] ++ s.data.toList).length + (⟨#[13, 10]⟩ : ByteArray).size ≤ 140737488355328 := by
    rw [List.length_append]
    show _ + s.size + 2 ≤ _
    simp; omega
  go_wp2_with (first
    | (go_at_call 26; refine (writeString_any write_ok writeStr_ok ⟨#[13, 10]⟩ _ HW2.out hl2).mono ?_; rintro e w3 ⟨rfl, hW3, hF3⟩)
    | (go_at_call 27; refine (check_nil _ _).mono ?_; rintro e w' ⟨rfl, rfl⟩))
  go_ret
  exact ⟨rfl, hW3, (HF1.out.trans HF2.out).trans hF3⟩
end Go.Proofs.Qxb6616642aFmt
