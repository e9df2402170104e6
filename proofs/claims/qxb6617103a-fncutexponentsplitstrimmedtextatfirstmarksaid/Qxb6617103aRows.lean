/-
  No cell of these rows narrows 'for every input' (looked for: loops, veiled, ifaces, maps, wideKeys, modest, calm, conditions, laid).
  DERIVED. THE GIVEN ROWS OF THIS SEAT. 2 by the template 'for every input the law returns true; each argument reads behind the call as it read before'; 0 by the template 'total and deterministic' (their statements: Qxb6617103aTotals.lean).
  GIVEN WITH THE SEED: the statements are not yours to turn. If you find one false, say at which input.
  Laid BY PROGRAM, IN A SANDBOX (cutbox-rows.mjs): the forced cells as the released guide's own fill.sh prints them over the translation 3513610a09c445ed… (all of the seat's roots in one cut). By AI agents, Wed Nov 11 2026. No macro, syntax, notation, axiom, sorry.
-/
import Derived.Test.Qxb6617103aChecked
import GoSem.Claim
import GoSem.ClaimJoined
import GoSem.ClaimMapViews
import Derived.JoinedTies
import Derived.KernelRfl
namespace Go.Proofs.Qxb6617103a
/- THE CELL 'sum', in the pinned program and in every row, IS THE sha256 OF THE DUMP (.gsa) THAT Qxb6617103aProg.lean LOADS. Nothing in Lean hashes anything: it is a label: what it is worth is what the hold of that sum in a sandbox is worth. -/
noncomputable def Try.pinned : Pinned := { name := "qxb6617103a", sum := "3513610a09c445edf263b1b03224e08a62d9e402a290118496ea4a4fd236443d", checked := Try.checked }
namespace Rows
def none {H : Type} : Left H := { results := [], args := [] }

/-- 'zzlaws_pkg_number_b1.FnCutExponentSplitsTrimmedTextAtFirstMark': WHATEVER THE INPUT: true; the input reads as it did. -/
def fnCutExponentSplitsTrimmedTextAtFirstMarkSpec : ChangeSpec := { name := "fnCutExponentSplitsTrimmedTextAtFirstMark", fn := fun _ => fun
  | [d] => { results := [.lit (.bool true)], args := [d] }
  | _ => none }
def fnCutExponentSplitsTrimmedTextAtFirstMarkRow : OpenClaim := { program := "qxb6617103a", sum := "3513610a09c445edf263b1b03224e08a62d9e402a290118496ea4a4fd236443d", func := "example.com/vestwright/vestwright/zzlaws_pkg_number_b1.FnCutExponentSplitsTrimmedTextAtFirstMark", spec := "fnCutExponentSplitsTrimmedTextAtFirstMark", inPlace := ["internal/bytealg.IndexByteString", "internal/bytealg.IndexString"], named := ["internal/bytealg.MaxLen"], apart := false }
def FnCutExponentSplitsTrimmedTextAtFirstMarkSaid : Prop := fnCutExponentSplitsTrimmedTextAtFirstMarkRow.holds Try.pinned (OpenSpec.ofChange fnCutExponentSplitsTrimmedTextAtFirstMarkSpec)

/-- ITS FALSE NEIGHBOUR: 'it returns false'. Refute it at one input. -/
def fnCutExponentSplitsTrimmedTextAtFirstMarkWrong : ChangeSpec := { name := "fnCutExponentSplitsTrimmedTextAtFirstMark", fn := fun _ => fun
  | [d] => { results := [.lit (.bool false)], args := [d] }
  | _ => none }
def FnCutExponentSplitsTrimmedTextAtFirstMarkWrongFalsely : Prop := fnCutExponentSplitsTrimmedTextAtFirstMarkRow.holds Try.pinned (OpenSpec.ofChange fnCutExponentSplitsTrimmedTextAtFirstMarkWrong)

/-- 'zzlaws_pkg_number_b1.FnCutExponentAtAnyJoin': WHATEVER THE INPUT: true; the input reads as it did. -/
def fnCutExponentAtAnyJoinSpec : ChangeSpec := { name := "fnCutExponentAtAnyJoin", fn := fun _ => fun
  | [d1, d2, d3] => { results := [.lit (.bool true)], args := [d1, d2, d3] }
  | _ => none }
def fnCutExponentAtAnyJoinRow : OpenClaim := { program := "qxb6617103a", sum := "3513610a09c445edf263b1b03224e08a62d9e402a290118496ea4a4fd236443d", func := "example.com/vestwright/vestwright/zzlaws_pkg_number_b1.FnCutExponentAtAnyJoin", spec := "fnCutExponentAtAnyJoin", inPlace := ["internal/bytealg.IndexByteString", "internal/bytealg.IndexString"], named := ["internal/bytealg.MaxLen"], apart := false }
def FnCutExponentAtAnyJoinSaid : Prop := fnCutExponentAtAnyJoinRow.holds Try.pinned (OpenSpec.ofChange fnCutExponentAtAnyJoinSpec)

/-- ITS FALSE NEIGHBOUR: 'it returns false'. Refute it at one input. -/
def fnCutExponentAtAnyJoinWrong : ChangeSpec := { name := "fnCutExponentAtAnyJoin", fn := fun _ => fun
  | [d1, d2, d3] => { results := [.lit (.bool false)], args := [d1, d2, d3] }
  | _ => none }
def FnCutExponentAtAnyJoinWrongFalsely : Prop := fnCutExponentAtAnyJoinRow.holds Try.pinned (OpenSpec.ofChange fnCutExponentAtAnyJoinWrong)

end Rows
end Go.Proofs.Qxb6617103a
