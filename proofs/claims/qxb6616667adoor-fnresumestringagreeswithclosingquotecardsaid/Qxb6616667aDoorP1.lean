import Derived.Test.Qxb6616667aDoorRows
import Derived.Test.Qxb6616667aDoorJ2
import Derived.WalkKit
import Derived.ProofKit
import Derived.OpenShut
import Derived.ShutString
import Derived.ChangeOld
import Derived.LaidLaws
import Derived.LaidHandle
import Derived.Lib.LaidTab
import Derived.Stop.Joined
namespace Go.Proofs.Qxb6616667aDoor
open Go.ChangeShapes Go.WideShapes Go.ChangeAt Go.RowKit
open Go.ChangeMaps (open_string shut_string)

theorem rowOwn : ownKnob Tryd.prog.godebug = none := by kernel_rfl
theorem rowLaidOut : laidOutB Tryd.prog = true := by kernel_rfl
theorem tabName : Tryd.prog.globalNamed "math/bits.deBruijn64tab" = some 1 := by kernel_rfl
theorem tabType : (Tryd.prog.globals[1]?).map (·.type) = some 64 := by kernel_rfl
theorem tabCells5 : Tryd.prog.cellsOf 5 = 1 := by kernel_rfl
theorem tabCells64 : Tryd.prog.cellsOf 64 = 64 := by kernel_rfl

/-- What the row lists. -/
def tabLaid : List (String × DataW Unit) := [("math/bits.deBruijn64tab", Rows.laid_math_bits_deBruijn64tab)]
theorem tabLaid_eq : tabLaid = [("math/bits.deBruijn64tab", Lib.tabData .u8 (Lib.deBruijn64tab.map fun n : Nat => (n : Int)))] := rfl

/-- From the row's condition to the table that the walks read. -/
theorem tab_of_laid {W : World} (h : laidMetH Tryd.prog tabLaid W) : Tab W := by
  have h' : laidMet Tryd.prog tabLaid W := h
  rw [tabLaid_eq] at h'
  have ht := Lib.tabIs_of_head tabName tabType Tryd.underlying64 Tryd.underlying5 tabCells5 tabCells64 h'
  have hc : ∀ j, j < Lib.deBruijn64tab.length → W.cell? ⟨1, j, none⟩ = some (.int .u8 (Lib.deBruijn64tab.getD j 0)) := fun j hj => by
    have := ht.cell tabName j (by simpa using hj)
    rw [this]
    congr 1
    simp [List.getD, hj]
  exact ⟨World.block_lt_of_cell? W _ (hc 0 (by decide)), hc⟩

/-- A world that meets the condition: the settled one, the table laid. -/
noncomputable def laidWorld (os : Os) : World :=
  let w0 := World.holding Tryd.prog os ⟨#[], #[], []⟩
  { w0 with heap := w0.heap.modify 1 fun
      | .cells _ t frozen => .cells (Lib.deBruijn64tab.map fun n : Nat => Value.int .u8 (n : Int)).toArray t frozen
      | o => o }
theorem laidWorld_met (os : Os) (args : Array Value) : laidMetH Tryd.prog tabLaid ((laidWorld os).forCall (fun _ _ => 0) ⟨#[], args, []⟩).memory :=
  laidMet_of_run' 8 (by kernel_rfl) (by kernel_rfl)

theorem came_of_ints {W : World} {x : Addr} {l c : Nat} {zs : List Int} (hl : l ≤ c) (hz : zs.length = c) (hcell : ∀ i, i < zs.length → W.cell? (x.add i) = some (.int .u8 (zs.getD i 0))) (hwz : ∀ n ∈ zs, (Lit.int .u8 n).wf = true) :
    ∃ d, Came W (some x) l c d := by
  refine ⟨(zs.take l).map fun z => UInt8.ofNat z.toNat, by simp; omega, Or.inr ⟨x, rfl, fun j hj => ?_⟩⟩
  have hj' : j < l := by simp at hj; omega
  have hjz : j < zs.length := by omega
  have hw := hwz zs[j] (List.getElem_mem hjz)
  rw [hcell j hjz]
  have hr : 0 ≤ zs[j] ∧ zs[j] < 256 := by
    simp [Lit.wf, IntKind.min, IntKind.max, IntKind.signed, IntKind.bits] at hw
    omega
  have e1 : zs.getD j 0 = zs[j] := by simp [List.getD, hjz]
  rw [e1]
  simp only [List.getElem_map, List.getElem_take, UInt8.toNat_ofNat']
  congr 2
  omega

set_option maxRecDepth 100000 in
theorem rowLifted (os : Os) (started : os.Started) (H : Type) (enc : TypeId × Value → H) :
    ReturnsInHanded {} Tryd.checked os 4 .any (fun w args => (Rows.fnResumeStringAgreesWithClosingQuoteSpec.pre enc Tryd.prog Tryd.f4 [] false w args ∧ laidMetH Tryd.prog tabLaid w) ∧ sizedMet enc Tryd.prog Tryd.f4 (OpenSpec.ofChange Rows.fnResumeStringAgreesWithClosingQuoteSpec) false w args)
      (Rows.fnResumeStringAgreesWithClosingQuoteSpec.post enc Tryd.prog Tryd.f4 false true false false) := by
  refine returnsInHanded_of_change_and (C := Tryd.checked) (X := fun w _ => laidMetH Tryd.prog tabLaid w) (fun _ _ _ hh h => h.of_heap hh) rowOwn started (by kernel_rfl) Tryd.func4
    (ChangeSpec.witness_at (enc := enc) (C := Tryd.checked) (os := os) (X := fun w _ => laidMetH Tryd.prog tabLaid w) false (laidWorld os) #[.string ByteArray.empty, .bool false, .int .i64 0, .int .i64 0, .string ByteArray.empty, .slice none 0 0] 8 rfl (by kernel_rfl) (by kernel_rfl) (by kernel_rfl) (by kernel_rfl) (by kernel_rfl) (laidWorld_met os _)) ?_
  intro W base args ds gs before hval0 hW _ _ hL _
  have hval : ∀ (j : Nat) t v, Tryd.f4.params[j]? = some t → args[j]? = some v → Value.okWide Tryd.prog W .any base t v := hval0
  have hW' := hW
  obtain ⟨p, q, hA0, hV, rfl, hfz, hnd⟩ := hW
  have hA : DataW.TrodAll enc Tryd.prog W 0 (fun _ => true) true Tryd.f4.params.toList args.toList ds p := hA0
  rw [Tryd.params4] at hA hval
  obtain ⟨v0, vs0, d0, ds0, p0, q0, hargs, rfl, rfl, h0, r0⟩ := trodAll_cons hA
  obtain ⟨v1, vs1, d1, ds1, p1, q1, rfl, rfl, rfl, h1, r1⟩ := trodAll_cons r0
  obtain ⟨v2, vs2, d2, ds2, p2, q2, rfl, rfl, rfl, h2, r2⟩ := trodAll_cons r1
  obtain ⟨v3, vs3, d3, ds3, p3, q3, rfl, rfl, rfl, h3, r3⟩ := trodAll_cons r2
  obtain ⟨v4, vs4, d4, ds4, p4, q4, rfl, rfl, rfl, h4, r4⟩ := trodAll_cons r3
  obtain ⟨v5, vs5, d5, ds5, p5, q5, rfl, rfl, rfl, h5, r5⟩ := trodAll_cons r4
  obtain ⟨rfl, rfl, rfl⟩ := trodAll_nil r5
  obtain rfl : args = #[v0, v1, v2, v3, v4, v5] := by cases args; simp_all
  obtain ⟨rfl, rfl⟩ := trodVars_none hV
  obtain ⟨a0, rfl, rfl, rfl, w0⟩ := open_string Tryd.underlying9 (hval 0 9 v0 rfl rfl) h0
  obtain ⟨a1, rfl, rfl, rfl⟩ := open_bool Tryd.underlying4 (hval 1 4 v1 rfl rfl) h1
  obtain ⟨a2, rfl, rfl, rfl, w2⟩ := open_int Tryd.underlying3 (hval 2 3 v2 rfl rfl) h2
  obtain ⟨a3, rfl, rfl, rfl, w3⟩ := open_int Tryd.underlying3 (hval 3 3 v3 rfl rfl) h3
  obtain ⟨a4, rfl, rfl, rfl, w4⟩ := open_string Tryd.underlying9 (hval 4 9 v4 rfl rfl) h4
  obtain ⟨a5, len5, cap5, rfl⟩ := okWide_slice Tryd.underlying22 (hval 5 22 v5 rfl rfl)
  have k5 := h5
  have lt5 : ∀ x ∈ p5, x.block < W.heap.size := by obtain ⟨m, hm⟩ := k5; exact DataW.trod_lt m _ _ _ hm
  obtain ⟨d, hd⟩ : ∃ d, Came W a5 len5 cap5 d := by
    obtain ⟨fuel, hf⟩ := h5
    rcases open_ints Tryd.underlying22 Tryd.underlying5 tabCells5 hf with ⟨hcs, _⟩ | ⟨x, l, c, zs, hcs, _, hl, hm, hz, _, hcell, hwz⟩
    · simp [Value.cells] at hcs
      obtain ⟨rfl, rfl, rfl⟩ := hcs
      exact ⟨[], rfl, Or.inl ⟨rfl, rfl, rfl⟩⟩
    · simp [Value.cells] at hcs
      obtain ⟨rfl, rfl, rfl⟩ := hcs
      exact came_of_ints hl (by simpa using hz) hcell hwz
  have hTab := tab_of_laid hL
  clear hA0 hval0
  refine (law_any a0 a1 a2 a3 a4 a5 len5 cap5 d W hd hTab).mono fun e W' ⟨he, bel⟩ => ?_
  subst he
  exact ⟨_, rfl, _, _, _, [], _, [], hW', trodAll_mk1 (shut_bool Tryd.underlying4 _),
    (trodAll_cons_mk (shut_string Tryd.underlying9 w0) (trodAll_cons_mk (shut_bool Tryd.underlying4 _) (trodAll_cons_mk (shut_int Tryd.underlying3 w2) (trodAll_cons_mk (shut_int Tryd.underlying3 w3)
      (trodAll_cons_mk (shut_string Tryd.underlying9 w4) (trodAll_cons_mk (Below.trod rowLaidOut (by kernel_rfl) (of_decide_eq_true (by kernel_rfl)) k5 bel lt5) trodAll_mk0)))))),
    rfl, bel.frame _, fun h => by cases h⟩

theorem row_holds : Rows.FnResumeStringAgreesWithClosingQuoteSaid :=
  OpenClaim.holds_of_wide 4 Tryd.f4 rfl rfl rfl rfl rfl rfl rfl ⟨rfl, rfl, rfl, rfl, rfl⟩ rfl rfl rfl rfl rfl (by kernel_rfl) Tryd.func4 (by kernel_rfl)
    (of_decide_eq_true (by kernel_rfl)) (by unfold Func.isWrapper; first | (rw [if_pos (by decide +kernel)]; kernel_rfl) | (rw [if_neg (by decide +kernel)]; exact ⟨rfl, rfl⟩))
    (fun os started H enc _ => rowLifted os started H enc)
end Go.Proofs.Qxb6616667aDoor
