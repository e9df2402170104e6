import Derived.Test.Qxb6616642aFmtA2
import Derived.Test.Qxb6616642aFmtRows
import Derived.Test.Qxb6616642aFmtTie
import Derived.Test.Qxb6616642aFmtCards
import Derived.SevenTiedAt
import Derived.ProofKit
import Derived.ShutString
import Derived.Stop.JoinedAt
import Derived.Stop.JoinedTold
namespace Go.Proofs.Qxb6616642aFmt
open Go.ChangeShapes Go.WideShapes Go.ChangeAt Go.RowKit Go.Kit
open Go.ChangeMaps (open_string shut_string)
open Go.Extern.Stop Go.Stop Go.Extern

theorem own7 : ownKnob Tryf.prog.godebug = none := by kernel_rfl
theorem laidOut7 : laidOutB Tryf.pinned.checked.prog = true := by kernel_rfl
theorem stopsAre7 : Tryf.pinned.checked.prog.stops = ["fmt.errorf"] := by kernel_rfl
theorem stopKnobs7 : Tryf.pinned.checked.prog.stopKnobs = [] := by kernel_rfl
theorem quietAt7 (os : Os) : Stop.quiet Tryf.pinned.checked.prog os := by
  intro k hk
  rw [stopKnobs7] at hk
  cases hk

theorem byte_of7 {x : Int} (h : (Lit.int .u8 x).wf = true) : ∃ c : UInt8, x = (c.toNat : Int) := by
  have h' : 0 ≤ x ∧ x ≤ 255 := by
    simpa [Lit.wf, IntKind.min, IntKind.max, IntKind.signed, IntKind.bits] using h
  refine ⟨UInt8.ofNat x.toNat, ?_⟩
  rw [UInt8.toNat_ofNat_of_lt' (by show x.toNat < 256; omega)]
  omega

set_option maxRecDepth 100000 in
/-- One start that fits: the sentinel as its initialiser lays it. -/
theorem wit7 (os : Os) {H : Type} (enc : TypeId × Value → H) : ∃ w0 : World, w0.os = os ∧ (w0.forCall (fun _ _ => 0) ⟨#[], #[.int .u8 0, .string ⟨#[]⟩, .int .i64 0], []⟩).variablesB Tryf.checked.prog = true ∧
    ((w0.forCall (fun _ _ => 0) ⟨#[], #[.int .u8 0, .string ⟨#[]⟩, .int .i64 0], []⟩).heap.toList.drop Tryf.checked.prog.globals.size).take ((begin Tryf.checked.prog (fun _ _ => 0) default).world.heap.size - Tryf.checked.prog.globals.size) =
      (begin Tryf.checked.prog (fun _ _ => 0) default).world.heap.toList.drop Tryf.checked.prog.globals.size ∧
    Input.okWideB Tryf.checked.prog (w0.forCall (fun _ _ => 0) ⟨#[], #[.int .u8 0, .string ⟨#[]⟩, .int .i64 0], []⟩) 7 ⟨#[], #[.int .u8 0, .string ⟨#[]⟩, .int .i64 0], []⟩ = true ∧
    (OpenSpec.ofChange Rows.fnLineSplitsAtAnyCutSpec).preRow enc Tryf.checked.prog Tryf.f7 [] false Rows.fnLineSplitsAtAnyCutRow.laid (w0.forCall (fun _ _ => 0) ⟨#[], #[.int .u8 0, .string ⟨#[]⟩, .int .i64 0], []⟩).memory #[.int .u8 0, .string ⟨#[]⟩, .int .i64 0] :=
  ⟨{ World.holding Tryf.prog os ⟨#[.cells #[.string ⟨#[115, 104, 111, 114, 116, 32, 119, 114, 105, 116, 101]⟩] 80], #[], []⟩ with heap := (World.holding Tryf.prog os ⟨#[.cells #[.string ⟨#[115, 104, 111, 114, 116, 32, 119, 114, 105, 116, 101]⟩] 80], #[], []⟩).heap.modify 0 fun
      | .cells _ t frozen => .cells #[.iface 78 (.pointer (some ⟨(World.holding Tryf.prog default ⟨#[], #[], []⟩).heap.size, 0, none⟩))] t frozen
      | o => o }, rfl, by kernel_rfl, by kernel_rfl, by kernel_rfl,
    OpenSpec.preRow_of_B rfl 8 (by kernel_rfl) (by kernel_rfl) (laidMet_of_run (ps := [.cell 0 0, .cell (World.holding Tryf.prog default ⟨#[], #[], []⟩).heap.size 0]) 8 (by kernel_rfl) (by kernel_rfl) (by kernel_rfl))⟩

set_option maxRecDepth 100000 in
theorem lifted7 (os : Os) (started : os.Started) (H : Type) (enc : TypeId × Value → H) :
    ReturnsInTold none {} Tryf.checked os 7 .any Input.okWide ((OpenSpec.ofChange Rows.fnLineSplitsAtAnyCutSpec).preRow enc Tryf.prog Tryf.f7 [] false Rows.fnLineSplitsAtAnyCutRow.laid) (fun F => ((OpenSpec.ofChange Rows.fnLineSplitsAtAnyCutSpec).at F).post enc Tryf.prog Tryf.f7 false true false false) (aloneAtReturn Tryf.prog) nothingAlways := by
  obtain ⟨w0, q1, q2, q3, q4, q5⟩ := wit7 os enc
  refine returnsInTold_of_row (C := Tryf.checked) (s := OpenSpec.ofChange Rows.fnLineSplitsAtAnyCutSpec) (by kernel_rfl) own7 started (by kernel_rfl) Tryf.func7
    (OpenSpec.witness_stopped_at (enc := enc) (C := Tryf.checked) false w0 #[.int .u8 0, .string ⟨#[]⟩, .int .i64 0] q1 q2 q3 q4 q5) ?_
  intro F W base args ds gs before _ hF hval0 hW _ _ _ hL _
  have hval : ∀ (j : Nat) t v, Tryf.f7.params[j]? = some t → args[j]? = some v → Value.okWide Tryf.prog W .any base t v := hval0
  have hW' := hW
  obtain ⟨p, q, hA0, hV, rfl, hfz, hnd⟩ := hW
  have hA : DataW.TrodAll enc Tryf.prog W 0 (fun _ => true) true Tryf.f7.params.toList args.toList ds p := hA0
  rw [Tryf.params7] at hA hval
  obtain ⟨v0, v1, v2, d0, d1, d2, p0, p1, p2, rfl, rfl, rfl, h0, h1, h2⟩ := trodAll_three hA
  obtain ⟨rfl, rfl⟩ := trodVars_none hV
  obtain ⟨x, rfl, rfl, rfl, wx⟩ := open_int Tryf.underlying5 (hval 0 5 v0 rfl rfl) h0
  obtain ⟨s, rfl, rfl, rfl, ws⟩ := open_string Tryf.underlying9 (hval 1 9 v1 rfl rfl) h1
  obtain ⟨y, rfl, rfl, rfl, wy⟩ := open_int Tryf.underlying3 (hval 2 3 v2 rfl rfl) h2
  clear hA0 hval0
  obtain ⟨c, rfl⟩ := byte_of7 wx
  refine (law7 c s y W ws).mono fun e W' ⟨he, hb⟩ => ?_
  subst he
  refine ⟨_, rfl, _, _, _, [], [], [], hW', ?_, ?_, rfl, hb.frame _, fun h => by cases h⟩
  · exact trodAll_mk1 (shut_bool Tryf.underlying4 true)
  · exact trodAll_mk3 (shut_int Tryf.underlying5 wx) (shut_string Tryf.underlying9 ws) (shut_int Tryf.underlying3 wy)

/-- THE STATEMENT -/
theorem proved7 : Rows.FnLineSplitsAtAnyCutToldSaid :=
  Claim7.holds_of_told_tied_any_at .later 7 Tryf.f7 "fmt.errorf" [] [] _ _ _ _ _ (by kernel_rfl) rfl rfl rfl laidOut7 (by kernel_rfl) rfl ⟨rfl, rfl, rfl, rfl, rfl, rfl, rfl⟩ rfl rfl (by kernel_rfl) (by kernel_rfl) Tryf.func7 (by kernel_rfl)
    (of_decide_eq_true (by kernel_rfl)) (by unfold Func.isWrapper; first | (rw [if_pos (by decide +kernel)]; kernel_rfl) | (rw [if_neg (by decide +kernel)]; exact ⟨rfl, rfl⟩)) stopsAre7.symm rfl stopKnobs7.symm (by kernel_rfl)
    (by kernel_rfl) (by kernel_rfl) (by kernel_rfl) (by kernel_rfl) (by kernel_rfl) (by kernel_rfl) (by kernel_rfl) (by kernel_rfl) (by kernel_rfl) rfl (by kernel_rfl) rfl rfl
    rfl rfl
    rfl (by kernel_rfl) (by kernel_rfl) (by kernel_rfl) (by decide) (by kernel_rfl) fnLineSplitsAtAnyCut_row_tie
    (OpenClaim.moreEntering_of (by kernel_rfl) (by kernel_rfl) (by kernel_rfl) (by kernel_rfl) (by kernel_rfl) (by kernel_rfl) (by kernel_rfl) (by kernel_rfl) (by kernel_rfl) (by kernel_rfl))
    ⟨_, WideRow.started_initial, quietAt7 _⟩
    (fun os started _ H enc _ => lifted7 os started H enc)
#print axioms proved7
end Go.Proofs.Qxb6616642aFmt
