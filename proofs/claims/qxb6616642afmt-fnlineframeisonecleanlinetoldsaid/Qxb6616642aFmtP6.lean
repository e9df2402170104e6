import Derived.Test.Qxb6616642aFmtA1
import Derived.Test.Qxb6616642aFmtRows
import Derived.Test.Qxb6616642aFmtTie
import Derived.Test.Qxb6616642aFmtCards
import Derived.SevenTiedAt
import Derived.ProofKit
import Derived.ShutString
import Derived.Stop.JoinedAt
import Derived.Stop.JoinedTold
namespace Go.Proofs.Qxb6616642aFmt
open Go.ChangeShapes Go.WideShapes Go.ChangeAt Go.RowKit Go.Kit
open Go.ChangeMaps (open_string shut_string)
open Go.Extern.Stop Go.Stop Go.Extern

theorem own : ownKnob Tryf.prog.godebug = none := by kernel_rfl
theorem laidOut : laidOutB Tryf.pinned.checked.prog = true := by kernel_rfl
theorem stopsAre : Tryf.pinned.checked.prog.stops = ["fmt.errorf"] := by kernel_rfl
theorem stopKnobs : Tryf.pinned.checked.prog.stopKnobs = [] := by kernel_rfl
theorem quietAt (os : Os) : Stop.quiet Tryf.pinned.checked.prog os := by
  intro k hk
  rw [stopKnobs] at hk
  cases hk

theorem byte_of {x : Int} (h : (Lit.int .u8 x).wf = true) : ∃ c : UInt8, x = (c.toNat : Int) := by
  have h' : 0 ≤ x ∧ x ≤ 255 := by
    simpa [Lit.wf, IntKind.min, IntKind.max, IntKind.signed, IntKind.bits] using h
  refine ⟨UInt8.ofNat x.toNat, ?_⟩
  rw [UInt8.toNat_ofNat_of_lt' (by show x.toNat < 256; omega)]
  omega

set_option maxRecDepth 100000 in
/-- One start that fits: the sentinel as its initialiser lays it. -/
theorem wit6 (os : Os) {H : Type} (enc : TypeId × Value → H) : ∃ w0 : World, w0.os = os ∧ (w0.forCall (fun _ _ => 0) ⟨#[], #[.int .u8 0, .string ⟨#[]⟩], []⟩).variablesB Tryf.checked.prog = true ∧
    ((w0.forCall (fun _ _ => 0) ⟨#[], #[.int .u8 0, .string ⟨#[]⟩], []⟩).heap.toList.drop Tryf.checked.prog.globals.size).take ((begin Tryf.checked.prog (fun _ _ => 0) default).world.heap.size - Tryf.checked.prog.globals.size) =
      (begin Tryf.checked.prog (fun _ _ => 0) default).world.heap.toList.drop Tryf.checked.prog.globals.size ∧
    Input.okWideB Tryf.checked.prog (w0.forCall (fun _ _ => 0) ⟨#[], #[.int .u8 0, .string ⟨#[]⟩], []⟩) 6 ⟨#[], #[.int .u8 0, .string ⟨#[]⟩], []⟩ = true ∧
    (OpenSpec.ofChange Rows.fnLineFrameIsOneCleanLineSpec).preRow enc Tryf.checked.prog Tryf.f6 [] false Rows.fnLineFrameIsOneCleanLineRow.laid (w0.forCall (fun _ _ => 0) ⟨#[], #[.int .u8 0, .string ⟨#[]⟩], []⟩).memory #[.int .u8 0, .string ⟨#[]⟩] :=
  ⟨{ World.holding Tryf.prog os ⟨#[.cells #[.string ⟨#[115, 104, 111, 114, 116, 32, 119, 114, 105, 116, 101]⟩] 80], #[], []⟩ with heap := (World.holding Tryf.prog os ⟨#[.cells #[.string ⟨#[115, 104, 111, 114, 116, 32, 119, 114, 105, 116, 101]⟩] 80], #[], []⟩).heap.modify 0 fun
      | .cells _ t frozen => .cells #[.iface 78 (.pointer (some ⟨(World.holding Tryf.prog default ⟨#[], #[], []⟩).heap.size, 0, none⟩))] t frozen
      | o => o }, rfl, by kernel_rfl, by kernel_rfl, by kernel_rfl,
    OpenSpec.preRow_of_B rfl 8 (by kernel_rfl) (by kernel_rfl) (laidMet_of_run (ps := [.cell 0 0, .cell (World.holding Tryf.prog default ⟨#[], #[], []⟩).heap.size 0]) 8 (by kernel_rfl) (by kernel_rfl) (by kernel_rfl))⟩

set_option maxRecDepth 100000 in
theorem lifted6 (os : Os) (started : os.Started) (H : Type) (enc : TypeId × Value → H) :
    ReturnsInTold none {} Tryf.checked os 6 .any Input.okWide ((OpenSpec.ofChange Rows.fnLineFrameIsOneCleanLineSpec).preRow enc Tryf.prog Tryf.f6 [] false Rows.fnLineFrameIsOneCleanLineRow.laid) (fun F => ((OpenSpec.ofChange Rows.fnLineFrameIsOneCleanLineSpec).at F).post enc Tryf.prog Tryf.f6 false true false false) (aloneAtReturn Tryf.prog) nothingAlways := by
  obtain ⟨w0, q1, q2, q3, q4, q5⟩ := wit6 os enc
  refine returnsInTold_of_row (C := Tryf.checked) (s := OpenSpec.ofChange Rows.fnLineFrameIsOneCleanLineSpec) (by kernel_rfl) own started (by kernel_rfl) Tryf.func6
    (OpenSpec.witness_stopped_at (enc := enc) (C := Tryf.checked) false w0 #[.int .u8 0, .string ⟨#[]⟩] q1 q2 q3 q4 q5) ?_
  intro F W base args ds gs before _ hF hval0 hW _ _ _ hL _
  have hval : ∀ (j : Nat) t v, Tryf.f6.params[j]? = some t → args[j]? = some v → Value.okWide Tryf.prog W .any base t v := hval0
  have hW' := hW
  obtain ⟨p, q, hA0, hV, rfl, hfz, hnd⟩ := hW
  have hA : DataW.TrodAll enc Tryf.prog W 0 (fun _ => true) true Tryf.f6.params.toList args.toList ds p := hA0
  rw [Tryf.params6] at hA hval
  obtain ⟨v0, v1, d0, d1, p0, p1, rfl, rfl, rfl, h0, h1⟩ := trodAll_two hA
  obtain ⟨rfl, rfl⟩ := trodVars_none hV
  obtain ⟨x, rfl, rfl, rfl, wx⟩ := open_int Tryf.underlying5 (hval 0 5 v0 rfl rfl) h0
  obtain ⟨s, rfl, rfl, rfl, ws⟩ := open_string Tryf.underlying9 (hval 1 9 v1 rfl rfl) h1
  clear hA0 hval0
  obtain ⟨c, rfl⟩ := byte_of wx
  refine (law6 c s W ws).mono fun e W' ⟨he, hb⟩ => ?_
  subst he
  refine ⟨_, rfl, _, _, _, [], [], [], hW', ?_, ?_, rfl, hb.frame _, fun h => by cases h⟩
  · exact trodAll_mk1 (shut_bool Tryf.underlying4 true)
  · exact trodAll_mk2 (shut_int Tryf.underlying5 wx) (shut_string Tryf.underlying9 ws)

/-- THE STATEMENT -/
theorem proved6 : Rows.FnLineFrameIsOneCleanLineToldSaid :=
  Claim7.holds_of_told_tied_any_at .later 6 Tryf.f6 "fmt.errorf" [] [] _ _ _ _ _ (by kernel_rfl) rfl rfl rfl laidOut (by kernel_rfl) rfl ⟨rfl, rfl, rfl, rfl, rfl, rfl, rfl⟩ rfl rfl (by kernel_rfl) (by kernel_rfl) Tryf.func6 (by kernel_rfl)
    (of_decide_eq_true (by kernel_rfl)) (by unfold Func.isWrapper; first | (rw [if_pos (by decide +kernel)]; kernel_rfl) | (rw [if_neg (by decide +kernel)]; exact ⟨rfl, rfl⟩)) stopsAre.symm rfl stopKnobs.symm (by kernel_rfl)
    (by kernel_rfl) (by kernel_rfl) (by kernel_rfl) (by kernel_rfl) (by kernel_rfl) (by kernel_rfl) (by kernel_rfl) (by kernel_rfl) (by kernel_rfl) rfl (by kernel_rfl) rfl rfl
    rfl rfl
    rfl (by kernel_rfl) (by kernel_rfl) (by kernel_rfl) (by decide) (by kernel_rfl) fnLineFrameIsOneCleanLine_row_tie
    (OpenClaim.moreEntering_of (by kernel_rfl) (by kernel_rfl) (by kernel_rfl) (by kernel_rfl) (by kernel_rfl) (by kernel_rfl) (by kernel_rfl) (by kernel_rfl) (by kernel_rfl) (by kernel_rfl))
    ⟨_, WideRow.started_initial, quietAt _⟩
    (fun os started _ H enc _ => lifted6 os started H enc)
#print axioms proved6
end Go.Proofs.Qxb6616642aFmt
