/-
  DERIVED. GIVEN WITH THE SEED: THE CARDS: each row of Qxb6616667aDoorRows.lean that lists a variable, with what it lists TIED to the program's text (the seventh form; the later family's looks); each row that meets fmt, with fmt's text TOLD by the authors' own Lean function (tested against real Go, not proved from fmt's source: count such statements apart). THE CARD IS WHAT COUNTS. Prove the row's statement (the work); the ties are given (Qxb6616667aDoorTie.lean); close each card by the builder's one call (the guide's Derived/Test/ToyasCard.lean, 'card_holds'). Laid BY PROGRAM, IN A SANDBOX (cutbox-door.mjs). By AI agents, Wed Nov 11 2026. No macro, syntax, notation, axiom, sorry.
-/
import Derived.Test.Qxb6616667aDoorRows
import GoSem.ClaimSeven
namespace Go.Proofs.Qxb6616667aDoor
namespace Rows

/-- THE TIED CARD OF 'zzlaws_backend_jsonscan_b1.FnResumeAtAnyCutAgreesWithModel'. -/
def fnResumeAtAnyCutAgreesWithModelCard : Claim7 := { stood := { row := fnResumeAtAnyCutAgreesWithModelRow, standIns := [], harness := (true, "50c34aaf573ee95766e43d38e5ad4a19197dfa2a5963a5c3ffc49359148850ea"), looks := false }, kinds := [], alts := [], laidByText := true, laidKinds := [.data], laidTests := true, laidLooks := .later }
def FnResumeAtAnyCutAgreesWithModelCardSaid : Prop := Claim7.holds Tryd.pinned (.plain (OpenSpec.ofChange fnResumeAtAnyCutAgreesWithModelSpec)) fnResumeAtAnyCutAgreesWithModelCard

/-- THE TIED CARD OF 'zzlaws_backend_jsonscan_b1.FnResumeStringAgreesWithClosingQuote'. -/
def fnResumeStringAgreesWithClosingQuoteCard : Claim7 := { stood := { row := fnResumeStringAgreesWithClosingQuoteRow, standIns := [], harness := (true, "50c34aaf573ee95766e43d38e5ad4a19197dfa2a5963a5c3ffc49359148850ea"), looks := false }, kinds := [], alts := [], laidByText := true, laidKinds := [.data], laidTests := true, laidLooks := .later }
def FnResumeStringAgreesWithClosingQuoteCardSaid : Prop := Claim7.holds Tryd.pinned (.plain (OpenSpec.ofChange fnResumeStringAgreesWithClosingQuoteSpec)) fnResumeStringAgreesWithClosingQuoteCard
end Rows
end Go.Proofs.Qxb6616667aDoor
