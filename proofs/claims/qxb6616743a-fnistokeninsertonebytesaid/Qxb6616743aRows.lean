/-
  No cell of these rows narrows 'for every input' (looked for: loops, veiled, ifaces, maps, wideKeys, modest, calm, conditions, laid).
  DERIVED. THE GIVEN ROWS OF THIS SEAT. 2 by the template 'for every input the law returns true; each argument reads behind the call as it read before'; 0 by the template 'total and deterministic' (their statements: Qxb6616743aTotals.lean).
  GIVEN WITH THE SEED: the statements are not yours to turn. If you find one false, say at which input.
  Laid BY PROGRAM, IN A SANDBOX (cutbox-rows.mjs): the forced cells as the released guide's own fill.sh prints them over the translation cbdec71e19e40707… (all of the seat's roots in one cut). By AI agents, Wed Nov 11 2026. No macro, syntax, notation, axiom, sorry.
-/
import Derived.Test.Qxb6616743aChecked
import GoSem.Claim
import GoSem.ClaimJoined
import GoSem.ClaimMapViews
import Derived.JoinedTies
import Derived.KernelRfl
namespace Go.Proofs.Qxb6616743a
/- THE CELL 'sum', in the pinned program and in every row, IS THE sha256 OF THE DUMP (.gsa) THAT Qxb6616743aProg.lean LOADS. Nothing in Lean hashes anything: it is a label: what it is worth is what the hold of that sum in a sandbox is worth. -/
noncomputable def Try.pinned : Pinned := { name := "qxb6616743a", sum := "cbdec71e19e40707e1761f0a63b38e383ad680564802ee9b7eb41a5b6f898321", checked := Try.checked }
namespace Rows
def none {H : Type} : Left H := { results := [], args := [] }

/-- 'zzlaws_root_b1.FnIsTokenJoinAtAnyCut': WHATEVER THE INPUT: true; the input reads as it did. -/
def fnIsTokenJoinAtAnyCutSpec : ChangeSpec := { name := "fnIsTokenJoinAtAnyCut", fn := fun _ => fun
  | [d1, d2] => { results := [.lit (.bool true)], args := [d1, d2] }
  | _ => none }
def fnIsTokenJoinAtAnyCutRow : OpenClaim := { program := "qxb6616743a", sum := "cbdec71e19e40707e1761f0a63b38e383ad680564802ee9b7eb41a5b6f898321", func := "example.com/path-to-handler/path-to-handler/zzlaws_root_b1.FnIsTokenJoinAtAnyCut", spec := "fnIsTokenJoinAtAnyCut", inPlace := ["internal/bytealg.IndexByteString", "internal/bytealg.IndexString"], unfollowed := true, recurses := true, named := ["internal/bytealg.MaxLen"], apart := false }
def FnIsTokenJoinAtAnyCutSaid : Prop := fnIsTokenJoinAtAnyCutRow.holds Try.pinned (OpenSpec.ofChange fnIsTokenJoinAtAnyCutSpec)

/-- ITS FALSE NEIGHBOUR: 'it returns false'. Refute it at one input. -/
def fnIsTokenJoinAtAnyCutWrong : ChangeSpec := { name := "fnIsTokenJoinAtAnyCut", fn := fun _ => fun
  | [d1, d2] => { results := [.lit (.bool false)], args := [d1, d2] }
  | _ => none }
def FnIsTokenJoinAtAnyCutWrongFalsely : Prop := fnIsTokenJoinAtAnyCutRow.holds Try.pinned (OpenSpec.ofChange fnIsTokenJoinAtAnyCutWrong)

/-- 'zzlaws_root_b1.FnIsTokenInsertOneByte': WHATEVER THE INPUT: true; the input reads as it did. -/
def fnIsTokenInsertOneByteSpec : ChangeSpec := { name := "fnIsTokenInsertOneByte", fn := fun _ => fun
  | [d1, d2, d3] => { results := [.lit (.bool true)], args := [d1, d2, d3] }
  | _ => none }
def fnIsTokenInsertOneByteRow : OpenClaim := { program := "qxb6616743a", sum := "cbdec71e19e40707e1761f0a63b38e383ad680564802ee9b7eb41a5b6f898321", func := "example.com/path-to-handler/path-to-handler/zzlaws_root_b1.FnIsTokenInsertOneByte", spec := "fnIsTokenInsertOneByte", inPlace := ["internal/bytealg.IndexByteString", "internal/bytealg.IndexString"], unfollowed := true, recurses := true, named := ["internal/bytealg.MaxLen"], apart := false }
def FnIsTokenInsertOneByteSaid : Prop := fnIsTokenInsertOneByteRow.holds Try.pinned (OpenSpec.ofChange fnIsTokenInsertOneByteSpec)

/-- ITS FALSE NEIGHBOUR: 'it returns false'. Refute it at one input. -/
def fnIsTokenInsertOneByteWrong : ChangeSpec := { name := "fnIsTokenInsertOneByte", fn := fun _ => fun
  | [d1, d2, d3] => { results := [.lit (.bool false)], args := [d1, d2, d3] }
  | _ => none }
def FnIsTokenInsertOneByteWrongFalsely : Prop := fnIsTokenInsertOneByteRow.holds Try.pinned (OpenSpec.ofChange fnIsTokenInsertOneByteWrong)

end Rows
end Go.Proofs.Qxb6616743a
