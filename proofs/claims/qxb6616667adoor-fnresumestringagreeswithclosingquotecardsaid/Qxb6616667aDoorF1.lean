import Derived.Test.Qxb6616667aDoorN3
import Derived.Test.Qxb6616667aDoorX2
namespace Go.Proofs.Qxb6616667aDoor
open Go.RowKit

def sNumber : ByteArray := ⟨#[97, 32, 110, 117, 109, 98, 101, 114]⟩
def sLiteral : ByteArray := ⟨#[97, 32, 108, 105, 116, 101, 114, 97, 108]⟩

/-- What resume answers, and the fields behind it. -/
structure Ans where
  n : Nat
  ok : Bool
  cut : ByteArray
  l : Bool
  h : Nat
  num : Nat
  lit : ByteArray

def Ans.after (A : Ans) (B : Nat) (w : World) : Prop := Scan B A.cut A.l A.h A.num A.lit w
def Ans.val (A : Ans) : Value := .tuple #[.int .i64 A.n, .bool A.ok]

/-- The cut behind a string. -/
def cutOf (more : Bool) : ByteArray := if more = true then sString else ByteArray.empty
def strA (d : List UInt8) (l : Bool) (h num : Nat) (lit : ByteArray) : Ans :=
  ⟨(strM d l h l h 0).pos, (strM d l h l h 0).ok, cutOf (strM d l h l h 0).more, (strM d l h l h 0).l, (strM d l h l h 0).h, num, lit⟩
def numA (d : List UInt8) (l : Bool) (h num : Nat) (lit : ByteArray) : Ans :=
  if (numRun d num 0).1 = d.length then ⟨d.length, true, sNumber, l, h, (numRun d num 0).2, lit⟩ else ⟨(numRun d num 0).1, wholeN (numRun d num 0).2, ByteArray.empty, l, h, num, lit⟩

theorem empty_eq : (⟨#[]⟩ : ByteArray) = ByteArray.empty := rfl

set_option maxHeartbeats 1600000 in
set_option maxRecDepth 100000 in
theorem numberFrom_any (B : Nat) (a : Option Addr) (d : List UInt8) (c q0 h : Nat) (l : Bool) (lit : ByteArray) (w : World)
    (hS : Scan B ByteArray.empty l h q0 lit w) (hC : Chk B w a d) (hm : d.length ≤ 1048576) (hq : 1 ≤ q0) (hq' : q0 ≤ 8) :
    Calls Tryd.prog 21 #[.pointer (some ⟨B, 0, none⟩), .slice a d.length c, .int .i64 0, .int .i64 q0] w fun e w' =>
      e = .returned (numA d l h q0 lit).val ∧ Below B w w' ∧ (numA d l h q0 lit).after B w' := by
  have HS := Hid.mk' hS
  have hE := numberEnd_any a d c 0 q0 w hC.chunk (Nat.zero_le _) hm hq hq'
  obtain ⟨c5, c6, c7, c8, c9, f5, f6, f7, f8, f9⟩ := hS
  rw [List.drop_zero] at hE
  clear hC
  have hN : ∀ p q : Nat, agree d.length (numRun d q0 0) (p, q) → p ≤ d.length → (p = d.length ∧ numA d l h q0 lit = ⟨d.length, true, sNumber, l, h, q, lit⟩) ∨ (p < d.length ∧ numA d l h q0 lit = ⟨p, wholeN q, ByteArray.empty, l, h, q0, lit⟩) := by
    intro p q hag hp
    obtain ⟨h1, h2, h3⟩ := hag
    simp only at h1 h2 h3
    unfold numA
    by_cases hpd : p = d.length
    · refine Or.inl ⟨hpd, ?_⟩
      rw [if_pos (h1.trans hpd), h2 (h1.trans hpd)]
    · refine Or.inr ⟨by omega, ?_⟩
      rw [if_neg (fun e => hpd (h1.symm.trans e)), h1, h3]
  have HN := Hid.mk' hN
  clear hN
  generalize numA d l h q0 lit = A at HN
  generalize numRun d q0 0 = N at hE HN
  have HE := Hid.mk' hE
  clear hE
  go_enter Tryd.func21, Tryd.ntmps21
  go_wp2_with (first | (go_at_call 26; refine HE.out.mono ?_; rintro e w' ⟨p, q, rfl, rfl, hag, hq1, hq8, hp⟩) | (go_at_call 27; refine (whole_any q hq1 hq8 _).mono ?_; rintro e w'' ⟨rfl, rfl⟩))
  all_goals
    go_ret2
    rcases HN.out p q hag hp with ⟨hp', rfl⟩ | ⟨hp', rfl⟩
  · refine ⟨by rw [hp']; rfl, ((Below.refl B _).setCell (p := ⟨B, 5, none⟩) (Nat.le_refl B) _).setCell (p := ⟨B, 8, none⟩) (Nat.le_refl B) _, ?_⟩
    exact (HS.out.set_cut sNumber).set_num q
  · have hbad : ((p : Int) == (d.length : Int)) = true := by assumption
    rw [bno (by omega)] at hbad
    cases hbad
  · have hbad : ((p : Int) == (d.length : Int)) = false := by assumption
    rw [hp'] at hbad
    simp at hbad
  · exact ⟨rfl, Below.refl B _, HS.out⟩
theorem Scan.drew {B : Nat} {cut : ByteArray} {l : Bool} {h num : Int} {lit : ByteArray} {w : World} (S : Scan B cut l h num lit w) : Scan B cut l h num lit w.drew :=
  S.below S.lt (Below.refl _ w).drew

/-- How many bytes of a literal a chunk begins with. -/
def litRun : List UInt8 → List UInt8 → Nat
  | x :: s, c :: t => if x = c then litRun s t + 1 else 0
  | _, _ => 0
theorem litRun_le : ∀ (s t : List UInt8), litRun s t ≤ s.length ∧ litRun s t ≤ t.length
  | [], _ => by simp [litRun]
  | _ :: _, [] => by simp [litRun]
  | x :: s, c :: t => by
    unfold litRun
    have := litRun_le s t
    split <;> simp <;> omega

def litA (d : List UInt8) (l : Bool) (h num : Nat) (lit : ByteArray) : Ans :=
  if litRun lit.data.toList d = lit.size then ⟨lit.size, true, ByteArray.empty, l, h, num, lit⟩
  else if litRun lit.data.toList d = d.length then ⟨d.length, true, sLiteral, l, h, num, lit.extract d.length lit.size⟩
  else ⟨litRun lit.data.toList d, false, ByteArray.empty, l, h, num, lit⟩

/-- The first k bytes agree. -/
def Same (lit : ByteArray) (d : List UInt8) (k : Nat) : Prop := k ≤ lit.size ∧ k ≤ d.length ∧ litRun lit.data.toList d = k + litRun (lit.data.toList.drop k) (d.drop k)
theorem Same.zero (lit : ByteArray) (d : List UInt8) : Same lit d 0 := ⟨Nat.zero_le _, Nat.zero_le _, by simp⟩
theorem lit_drop (lit : ByteArray) {k : Nat} (h : k < lit.size) : lit.data.toList.drop k = lit[k]'h :: lit.data.toList.drop (k + 1) := by
  have hl : k < lit.data.toList.length := by simpa using h
  rw [List.drop_eq_getElem_cons hl, Array.getElem_toList]; rfl
theorem Same.step {lit : ByteArray} {d : List UInt8} {k : Nat} (h : Same lit d k) (h1 : k < lit.size) (h2 : k < d.length) (he : lit[k]'h1 = d[k]) : Same lit d (k + 1) := by
  refine ⟨h1, h2, ?_⟩
  rw [h.2.2, lit_drop lit h1, drop_cons h2, litRun, if_pos he]; omega
theorem Same.stop {lit : ByteArray} {d : List UInt8} {k : Nat} (h : Same lit d k) (h1 : k < lit.size) (h2 : k < d.length) (he : ¬ lit[k]'h1 = d[k]) : litRun lit.data.toList d = k := by
  rw [h.2.2, lit_drop lit h1, drop_cons h2, litRun, if_neg he]; omega
theorem Same.end1 {lit : ByteArray} {d : List UInt8} {k : Nat} (h : Same lit d k) (h1 : ¬ k < lit.size) : litRun lit.data.toList d = k := by
  rw [h.2.2, List.drop_of_length_le (by simp; omega)]
  simp [litRun]
theorem Same.end2 {lit : ByteArray} {d : List UInt8} {k : Nat} (h : Same lit d k) (h2 : ¬ k < d.length) : litRun lit.data.toList d = k := by
  rw [h.2.2, show d.drop k = [] from List.drop_of_length_le (by omega)]
  cases lit.data.toList.drop k <;> simp [litRun]

set_option maxHeartbeats 1600000 in
set_option maxRecDepth 100000 in
theorem literalFrom_any (B : Nat) (a : Option Addr) (d : List UInt8) (c q h : Nat) (l : Bool) (lit : ByteArray) (w : World)
    (hS : Scan B ByteArray.empty l h q lit w) (hC : Chk B w a d) (hm : d.length ≤ 1048576) :
    Calls Tryd.prog 22 #[.pointer (some ⟨B, 0, none⟩), .slice a d.length c, .int .i64 0, .string lit] w fun e w' =>
      e = .returned (litA d l h q lit).val ∧ Below B w w' ∧ (litA d l h q lit).after B w' := by
  have HS := Hid.mk' hS
  have HC := Hid.mk' hC
  clear hC hS
  have e1 : ∀ k, litRun lit.data.toList d = k → k = lit.size → litA d l h q lit = ⟨k, true, ByteArray.empty, l, h, q, lit⟩ := by
    intro k hk hks; unfold litA; rw [hk, if_pos hks, hks]
  have e2 : ∀ k, litRun lit.data.toList d = k → k < lit.size → k = d.length → litA d l h q lit = ⟨k, true, sLiteral, l, h, q, lit.extract k lit.size⟩ := by
    intro k hk hks hkd; unfold litA; rw [hk, if_neg (by omega), if_pos hkd, hkd]
  have e3 : ∀ k, litRun lit.data.toList d = k → k < lit.size → k < d.length → litA d l h q lit = ⟨k, false, ByteArray.empty, l, h, q, lit⟩ := by
    intro k hk hks hkd; unfold litA; rw [hk, if_neg (by omega), if_neg (by omega)]
  have E1 := Hid.mk' e1
  have E2 := Hid.mk' e2
  have E3 := Hid.mk' e3
  clear e1 e2 e3
  generalize litA d l h q lit = A at E1 E2 E3
  go_enter Tryd.func22, Tryd.ntmps22
  go_wp2
  go_loopw [2, 10, 13] (fun vi _ vk wr => Below B w wr ∧ Hid (Scan B ByteArray.empty l h q lit wr) ∧ ∃ k : Nat, vi = .int .i64 k ∧ vk = .int .i64 k ∧ Hid (Same lit d k)) (fun _ _ vk _ => lit.size - (intOf vk).toNat)
  case atStart => exact ⟨Below.refl _ _, HS, 0, rfl, rfl, Same.zero lit d⟩
  case round =>
    obtain ⟨hb, HSr, k, rfl, rfl, HK⟩ := hrel
    obtain ⟨c5, c6, c7, c8, c9, f5, f6, f7, f8, f9⟩ := HSr.out
    have hd : Below wr.heap.size wr wr.drew := (Below.refl _ wr).drew
    have hBs := HSr.out.lt
    by_cases h1 : k < lit.size
    · by_cases h2 : k < d.length
      · obtain ⟨g, hg, rfl, hcell⟩ := (HC.out.below hb).get h2
        have bl : ((k : Int) == (d.length : Int)) = false := bno (by omega)
        by_cases he : lit[k]'h1 = d[k]
        · have HK2 := Hid.mk' (HK.out.step h1 h2 he)
          have hbe : ((d[k].toNat : Int) != ((lit[k]'h1).toNat : Int)) = false := by rw [he]; simp
          clear he
          go_wp2
          go_region
          go_wp2
          go_roundw
          case rel => exact ⟨hb.drew, HSr.out.below hBs hd, k + 1, by go_num, by go_num, HK2⟩
          case measure => simp [intOf]; omega
        · have hr := E3.out k (HK.out.stop h1 h2 he) h1 h2
          subst hr
          have hbe : ((d[k].toNat : Int) != ((lit[k]'h1).toNat : Int)) = true := by
            have : ¬ d[k].toNat = (lit[k]'h1).toNat := fun e => he (UInt8.toNat_inj.1 e.symm)
            simp only [bne_iff_ne, ne_eq]; omega
          clear he E1 E2 E3
          go_wp2
          go_region
          go_wp2
          go_ret2
          exact ⟨rfl, hb.drew, HSr.out.below hBs hd⟩
      · have h2' : k = d.length := by have := HK.out.2.1; omega
        have hr := E2.out k (HK.out.end2 h2) h1 h2'
        subst hr
        have bl : ((k : Int) == (d.length : Int)) = true := by rw [h2']; simp
        clear h2' E1 E2 E3
        go_wp2
        go_region
        go_wp2
        go_ret2
        exact ⟨rfl, ((hb.setCell (p := ⟨B, 5, none⟩) (Nat.le_refl B) _).setCell (p := ⟨B, 9, none⟩) (Nat.le_refl B) _).drew, ((HSr.out.set_cut sLiteral).set_lit (lit.extract k lit.size)).drew⟩
    · have h1' : k = lit.size := by have := HK.out.1; omega
      have hr := E1.out k (HK.out.end1 h1) h1'
      subst hr
      clear E1 E2 E3
      go_wp2
      go_ret2
      exact ⟨rfl, hb, HSr.out⟩
end Go.Proofs.Qxb6616667aDoor
