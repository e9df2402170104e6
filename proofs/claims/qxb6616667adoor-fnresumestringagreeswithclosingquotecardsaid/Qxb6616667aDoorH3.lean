import Derived.Test.Qxb6616667aDoorH2
import Derived.Laws.Closers25b
namespace Go.Proofs.Qxb6616667aDoor
open Go.RowKit

def ReachZ (cut : ByteArray) (l : Bool) (h num : Int) : Prop := ∃ H N : Nat, h = (H : Int) ∧ num = (N : Int) ∧ Reach cut l H N

theorem bne_of {n k : Int} (h : ¬ n = k) : (n != k) = true := by simp [h]
theorem beq_of {n k : Int} (h : ¬ n = k) : (n == k) = false := by simp [h]

/-- What jsb1Reachable answers, as far as it is wanted. -/
def ReachPost (cut : ByteArray) (l : Bool) (h num : Int) (w : World) (e : Ending) (w' : World) : Prop := ∃ b : Bool, e = .returned (.bool b) ∧ w' = w ∧ (b = true → ReachZ cut l h num)

/-- Some Bool, the world as it was. -/
def SomeBool (w : World) (e : Ending) (w' : World) : Prop := ∃ b : Bool, e = .returned (.bool b) ∧ w' = w

theorem toList_ne {s : ByteArray} {l : List UInt8} (h : ¬ s = ⟨l.toArray⟩) : (s.toList == l) = false := by
  rw [beq_eq_false_iff_ne, ByteArray.toList_eq]
  intro e
  apply h
  cases s with
  | mk d => congr 1; rw [← e]

set_option maxHeartbeats 3200000 in
set_option maxRecDepth 100000 in
theorem reach_ok (cut : ByteArray) (l : Bool) (H N : Nat) (lit : ByteArray) (w : World) (hcut : cut = ByteArray.empty ∨ cut = sString ∨ cut = sNumber ∨ cut = sLiteral) (hH : H ≤ 4) (hlH : l = true → H = 0) (hN : N ≤ 8) (hN1 : cut = sNumber → 1 ≤ N) :
    Calls Tryd.prog 6 #[.string cut, .bool l, .int .i64 H, .int .i64 N, .string lit] w fun e w' => SomeBool w e w' := by
  have hl : l = false ∨ (l = true ∧ H = 0) := by
    cases l with
    | false => exact Or.inl rfl
    | true => exact Or.inr ⟨rfl, hlH rfl⟩
  clear hlH
  rcases hcut with rfl | rfl | rfl | rfl
  case inr.inr.inl =>
    have bN : ((N : Int) == 0) = false := bno (k := 0) (by have := hN1 rfl; omega)
    clear hN1
    unfold sNumber
    rcases hl with rfl | ⟨rfl, rfl⟩
    all_goals
      go_enter Tryd.func6, Tryd.ntmps6
      go_wp2
      all_goals
        go_ret
        exact ⟨_, rfl, rfl⟩
  all_goals
    clear hN1
    try unfold sString
    try unfold sLiteral
    rcases hl with rfl | ⟨rfl, rfl⟩
    all_goals
      go_enter Tryd.func6, Tryd.ntmps6
      go_wp2
      all_goals
        go_ret
        exact ⟨_, rfl, rfl⟩

set_option maxHeartbeats 3200000 in
set_option maxRecDepth 100000 in
theorem reach_any (cut : ByteArray) (l : Bool) (h num : Int) (lit : ByteArray) (w : World) :
    Calls Tryd.prog 6 #[.string cut, .bool l, .int .i64 h, .int .i64 num, .string lit] w fun e w' => ReachPost cut l h num w e w' := by
  by_cases hcut : cut = ByteArray.empty ∨ cut = sString ∨ cut = sNumber ∨ cut = sLiteral
  · by_cases h0 : h < 0
    · rcases hcut with rfl | rfl | rfl | rfl
      all_goals
        try unfold sString
        try unfold sNumber
        try unfold sLiteral
        go_enter Tryd.func6, Tryd.ntmps6
        go_wp2
        go_ret
        exact ⟨_, rfl, rfl, fun hb => by cases hb⟩
    · by_cases h4 : 4 < h
      · rcases hcut with rfl | rfl | rfl | rfl
        all_goals
          try unfold sString
          try unfold sNumber
          try unfold sLiteral
          go_enter Tryd.func6, Tryd.ntmps6
          go_wp2
          go_ret
          exact ⟨_, rfl, rfl, fun hb => by cases hb⟩
      · obtain ⟨H, rfl⟩ := Int.eq_ofNat_of_zero_le (show 0 ≤ h by omega)
        by_cases hl : l = true ∧ ¬ H = 0
        · obtain ⟨rfl, hH⟩ := hl
          have bH : ((H : Int) != 0) = true := bne_of (by omega)
          rcases hcut with rfl | rfl | rfl | rfl
          all_goals
            try unfold sString
            try unfold sNumber
            try unfold sLiteral
            go_enter Tryd.func6, Tryd.ntmps6
            go_wp2
            go_ret
            exact ⟨_, rfl, rfl, fun hb => by cases hb⟩
        · have hlH : l = true → H = 0 := fun e => by
            by_cases hz : H = 0
            · exact hz
            · exact absurd ⟨e, hz⟩ hl
          by_cases n0 : num < 0
          · rcases hcut with rfl | rfl | rfl | rfl
            all_goals
              try unfold sString
              try unfold sNumber
              try unfold sLiteral
              cases l with
              | true =>
                obtain rfl := hlH rfl
                go_enter Tryd.func6, Tryd.ntmps6
                go_wp2
                go_ret
                exact ⟨_, rfl, rfl, fun hb => by cases hb⟩
              | false =>
                go_enter Tryd.func6, Tryd.ntmps6
                go_wp2
                go_ret
                exact ⟨_, rfl, rfl, fun hb => by cases hb⟩
          · by_cases n8 : 8 < num
            · rcases hcut with rfl | rfl | rfl | rfl
              all_goals
                try unfold sString
                try unfold sNumber
                try unfold sLiteral
                cases l with
                | true =>
                  obtain rfl := hlH rfl
                  go_enter Tryd.func6, Tryd.ntmps6
                  go_wp2
                  go_ret
                  exact ⟨_, rfl, rfl, fun hb => by cases hb⟩
                | false =>
                  go_enter Tryd.func6, Tryd.ntmps6
                  go_wp2
                  go_ret
                  exact ⟨_, rfl, rfl, fun hb => by cases hb⟩
            · obtain ⟨N, rfl⟩ := Int.eq_ofNat_of_zero_le (show 0 ≤ num by omega)
              by_cases hN : cut = sNumber ∧ N = 0
              · obtain ⟨rfl, rfl⟩ := hN
                unfold sNumber
                cases l with
                | true =>
                  obtain rfl := hlH rfl
                  go_enter Tryd.func6, Tryd.ntmps6
                  go_wp2
                  go_ret
                  exact ⟨_, rfl, rfl, fun hb => by cases hb⟩
                | false =>
                  go_enter Tryd.func6, Tryd.ntmps6
                  go_wp2
                  go_ret
                  exact ⟨_, rfl, rfl, fun hb => by cases hb⟩
              · have HR : Hid (ReachZ cut l H N) := ⟨H, N, rfl, rfl, hcut, by omega, hlH, by omega, fun e => by
                  by_cases hz : N = 0
                  · exact absurd ⟨e, hz⟩ hN
                  · omega⟩
                refine Calls.mono (reach_ok cut l H N lit w hcut (by omega) hlH (by omega) (fun e => by
                  by_cases hz : N = 0
                  · exact absurd ⟨e, hz⟩ hN
                  · omega)) fun e w' ⟨b, he, hw⟩ => ⟨b, he, hw, fun _ => HR.out⟩
  · have hne : cut.toList.isEmpty = false := by
      cases hs : cut.toList.isEmpty with
      | false => rfl
      | true =>
        rw [List.isEmpty_iff, toList_nil_iff_emptyBytes] at hs
        exact absurd (Or.inl hs) hcut
    have f1 := toList_ne (l := [97, 32, 115, 116, 114, 105, 110, 103]) (fun e => hcut (Or.inr (Or.inl e)))
    have f2 := toList_ne (l := [97, 32, 110, 117, 109, 98, 101, 114]) (fun e => hcut (Or.inr (Or.inr (Or.inl e))))
    have f3 := toList_ne (l := [97, 32, 108, 105, 116, 101, 114, 97, 108]) (fun e => hcut (Or.inr (Or.inr (Or.inr e))))
    clear hcut
    go_enter Tryd.func6, Tryd.ntmps6
    go_wp2
    go_ret
    exact ⟨_, rfl, rfl, fun hb => by cases hb⟩
end Go.Proofs.Qxb6616667aDoor
