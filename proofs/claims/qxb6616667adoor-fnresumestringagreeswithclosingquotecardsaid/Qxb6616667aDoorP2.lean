import Derived.Test.Qxb6616667aDoorP1
import Derived.Test.Qxb6616667aDoorTie
import Derived.Test.Qxb6616667aDoorCards
import Derived.SevenTiedAt
namespace Go.Proofs.Qxb6616667aDoor
open Go

/-- The card: the row, its listed variable tied to the program's text by the given tie. -/
theorem proved4 : Rows.FnResumeStringAgreesWithClosingQuoteCardSaid :=
  Claim7.holds_tied_plain_at .later [] [.data] true (true, "50c34aaf573ee95766e43d38e5ad4a19197dfa2a5963a5c3ffc49359148850ea") false
    row_holds (fun _ h => by cases h) (by kernel_rfl) (fun _ h => by cases h) fnResumeStringAgreesWithClosingQuote_row_tie rfl ⟨rfl, rfl⟩ (by kernel_rfl) rfl
    (fun f fn hf hfn => by
      obtain rfl : f = 4 := Option.some.inj ((show Tryd.prog.funcNamed "example.com/switchboard/switchboard/zzlaws_backend_jsonscan_b1.FnResumeStringAgreesWithClosingQuote" = some 4 by kernel_rfl).symm.trans hf) |>.symm
      obtain rfl : fn = Tryd.f4 := (Option.some.inj (Tryd.func4.symm.trans hfn)).symm
      refine ⟨by kernel_rfl, fun j t ht => ?_⟩
      rw [Tryd.params4] at ht
      have hm : t ∈ [9, 4, 3, 3, 9, 22] := List.mem_of_getElem? (i := j) (by simpa using ht)
      have hall : ([9, 4, 3, 3, 9, 22].all fun u => !Tryd.prog.wantsStandIn u) = true := by kernel_rfl
      have hw : Tryd.prog.wantsStandIn t = false := by simpa using List.all_eq_true.1 hall t hm
      exact hw)
    (by kernel_rfl)
end Go.Proofs.Qxb6616667aDoor
