/-
  'Rows.FnRepeatedErrorIsSyntaxErrorAtDecoderLineToldSaid', proved: the card, told and tied.
-/
import Derived.Test.Qxb6603681aFmtRows
import Derived.Test.Qxb6603681aFmtTie
import Derived.Test.Qxb6603681aFmtCards
import Derived.Test.Qxb6603681aFmtLaw
import Derived.ProofKit
import Derived.ShutString
import Derived.Stop.JoinedAt
import Derived.Stop.JoinedTold
import Derived.LaidLaws
import Derived.LaidHandle
import Derived.SevenTiedAt
namespace Go.Proofs.Qxb6603681aFmt
open Go.ChangeShapes Go.WideShapes Go.ChangeAt Go.RowKit Go.Kit
open Go.ChangeMaps (open_string shut_string)
open Go.Extern.Stop Go.Stop Go.Extern

theorem Tryf.own : ownKnob Tryf.prog.godebug = none := by kernel_rfl
theorem Tryf.et : Tryf.prog.globalNamed "errors.errorType" = some 0 := by kernel_rfl
/-- The dynamic type's name that a listed datum bears. -/
def ifaceName : DataW Unit → String
  | .iface n _ => n
  | _ => ""
theorem Tryf.rt : (Tryf.prog.cutTypes.find? (·.1 == ifaceName Rows.laid_errors_errorType)).map (·.2) = some 90 := by kernel_rfl
theorem Tryf.oneRow : ((List.range 181).filter fun t => Tryf.prog.rowNamed t [101, 114, 114, 111, 114]) = [38] := by kernel_rfl
theorem Tryf.size : Tryf.prog.types.size = 181 := by kernel_rfl

/-- What the row's condition gives the walk: the variable's one cell. -/
theorem handle_of_laid {W : World} (h : laidMetH Tryf.prog Rows.fnRepeatedErrorIsSyntaxErrorAtDecoderLineRow.laid W) : W.cell? ⟨0, 0, none⟩ = some (.iface 90 (.agg #[.pointer (some ⟨1, 38, none⟩)])) := by
  have h' : laidMet Tryf.prog [] W ∧ handlesMet Tryf.prog Rows.fnRepeatedErrorIsSyntaxErrorAtDecoderLineRow.laid W := h
  obtain ⟨name, u, ty, e1, e2, e3, e4, e5⟩ := h'.2 _ (List.mem_singleton.2 rfl)
  have en : name = [101, 114, 114, 111, 114] := (Option.some.inj e1).symm
  subst en
  obtain rfl := Option.some.inj (Tryf.rt.symm.trans e2)
  have hm : ty ∈ (List.range 181).filter fun t => Tryf.prog.rowNamed t [101, 114, 114, 111, 114] := List.mem_filter.2 ⟨List.mem_range.2 (by rw [← Tryf.size]; exact e3), e4⟩
  rw [Tryf.oneRow] at hm
  obtain rfl := List.mem_singleton.1 hm
  have hh : typeHandle Tryf.prog 38 = .pointer (some ⟨1, 38, none⟩) := by kernel_rfl
  rw [hh] at e5
  simpa using World.var?_cell Tryf.et e5 0

/-- A world that meets the condition: the settled one, the variable's cell laid. -/
def laidWorld (P : Program) (os : Os) : World :=
  let w0 := World.holding P os ⟨#[], #[], []⟩
  { w0 with heap := w0.heap.modify 0 fun
      | .cells _ t frozen => .cells #[.iface 90 (.agg #[.pointer (some ⟨1, 38, none⟩)])] t frozen
      | o => o }
theorem laidWorld_met (os : Os) (args : Array Value) : laidMetH Tryf.prog Rows.fnRepeatedErrorIsSyntaxErrorAtDecoderLineRow.laid ((laidWorld Tryf.prog os).forCall (fun _ _ => 0) ⟨#[], args, []⟩).memory :=
  laidMetH_of_parts (laidMet_nil _ _) (by kernel_rfl)

set_option maxRecDepth 100000 in
theorem lifted (os : Os) (started : os.Started) (H : Type) (enc : TypeId × Value → H) :
    ReturnsInTold none {} Tryf.checked os 3 .any Input.okWide ((OpenSpec.ofChange Rows.fnRepeatedErrorIsSyntaxErrorAtDecoderLineSpec).preRow enc Tryf.prog Tryf.f3 Rows.fnRepeatedErrorIsSyntaxErrorAtDecoderLineRow.domain false Rows.fnRepeatedErrorIsSyntaxErrorAtDecoderLineRow.laid)
      (fun F => ((OpenSpec.ofChange Rows.fnRepeatedErrorIsSyntaxErrorAtDecoderLineSpec).at F).post enc Tryf.prog Tryf.f3 false true false false) (aloneAtReturn Tryf.prog) nothingAlways := by
  refine returnsInTold_of_row (C := Tryf.checked) (s := OpenSpec.ofChange Rows.fnRepeatedErrorIsSyntaxErrorAtDecoderLineSpec) (by kernel_rfl) Tryf.own started (by kernel_rfl) Tryf.func3
    (OpenSpec.witness_stopped_at (enc := enc) (C := Tryf.checked) false (laidWorld Tryf.prog os) #[.string ⟨#[]⟩, .string ⟨#[]⟩] rfl (by kernel_rfl) (by kernel_rfl) (by kernel_rfl)
      (OpenSpec.preRow_of_B rfl 8 (by kernel_rfl) (by kernel_rfl) (laidWorld_met os _))) ?_
  intro F W base args ds gs before _ hF hval0 hW _ _ _ hL _
  have hval : ∀ (j : Nat) t v, Tryf.f3.params[j]? = some t → args[j]? = some v → Value.okWide Tryf.prog W .any base t v := hval0
  have hW' := hW
  obtain ⟨p, q, hA0, hV, rfl, _, _⟩ := hW
  have hA : DataW.TrodAll enc Tryf.prog W 0 (fun _ => true) true Tryf.f3.params.toList args.toList ds p := hA0
  rw [Tryf.params3] at hA hval
  obtain ⟨v0, v1, d0, d1, p0, p1, rfl, rfl, rfl, h0, h1⟩ := trodAll_two hA
  obtain ⟨rfl, rfl⟩ := trodVars_none hV
  obtain ⟨lo, rfl, rfl, rfl, w0⟩ := open_string Tryf.underlying9 (hval 0 9 v0 rfl rfl) h0
  obtain ⟨sp, rfl, rfl, rfl, w1⟩ := open_string Tryf.underlying9 (hval 1 9 v1 rfl rfl) h1
  clear hA0 hval0
  have hg := handle_of_laid hL
  refine (law_any F.told lo sp W w0 w1 hF hg).mono fun e W' ⟨he, bel⟩ => ?_
  subst he
  refine ⟨_, rfl, _, _, _, [], [], [], hW', ?_, ?_, ?_, bel.frame _, fun h => by cases h⟩
  · exact trodAll_mk1 (shut_bool Tryf.underlying4 true)
  · exact trodAll_mk2 (shut_string Tryf.underlying9 w0) (shut_string Tryf.underlying9 w1)
  · rfl

theorem Tryf.laidOut : laidOutB Tryf.pinned.checked.prog = true := by kernel_rfl
theorem Tryf.stops : Tryf.pinned.checked.prog.stops = Rows.fnRepeatedErrorIsSyntaxErrorAtDecoderLineRow.stops := by kernel_rfl
theorem Tryf.stopKnobs : Tryf.pinned.checked.prog.stopKnobs = [] := by kernel_rfl
theorem Tryf.quiet (os : Os) : Stop.quiet Tryf.pinned.checked.prog os := by
  intro k hk
  rw [Tryf.stopKnobs] at hk
  cases hk

/-- THE STATEMENT. -/
theorem proved : Rows.FnRepeatedErrorIsSyntaxErrorAtDecoderLineToldSaid :=
  Claim7.holds_of_told_tied_any_at .later 3 Tryf.f3 _ [] [] _ _ _ _ _ (by kernel_rfl) rfl rfl rfl Tryf.laidOut (by kernel_rfl) rfl ⟨rfl, rfl, rfl, rfl, rfl, rfl, rfl⟩ rfl rfl (by kernel_rfl) (by kernel_rfl) Tryf.func3 (by kernel_rfl)
    (of_decide_eq_true (by kernel_rfl)) (by unfold Func.isWrapper; first | (rw [if_pos (by decide +kernel)]; kernel_rfl) | (rw [if_neg (by decide +kernel)]; exact ⟨rfl, rfl⟩)) Tryf.stops.symm rfl Tryf.stopKnobs.symm (by kernel_rfl)
    (by kernel_rfl) (by kernel_rfl) (by kernel_rfl) (by kernel_rfl) (by kernel_rfl) (by kernel_rfl) (by kernel_rfl) (by kernel_rfl) (by kernel_rfl) rfl (by kernel_rfl) rfl rfl
    rfl rfl
    rfl (by kernel_rfl) (by kernel_rfl) (by kernel_rfl) (by decide) (by kernel_rfl) fnRepeatedErrorIsSyntaxErrorAtDecoderLine_row_tie
    (OpenClaim.moreEntering_of (by kernel_rfl) (by kernel_rfl) (by kernel_rfl) (by kernel_rfl) (by kernel_rfl) (by kernel_rfl) (by kernel_rfl) (by kernel_rfl) (by kernel_rfl) (by kernel_rfl))
    ⟨_, WideRow.started_initial, Tryf.quiet _⟩
    (fun os started _ H enc _ => lifted os started H enc)

end Go.Proofs.Qxb6603681aFmt
