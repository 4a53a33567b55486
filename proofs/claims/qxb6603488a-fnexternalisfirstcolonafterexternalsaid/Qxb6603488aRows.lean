/-
  No cell of these rows narrows 'for every input' (looked for: loops, veiled, ifaces, maps, wideKeys, modest, calm, conditions, laid).
  DERIVED. THE GIVEN ROWS OF THIS SEAT. 2 by the template 'for every input the law returns true; each argument reads behind the call as it read before'; 0 by the template 'total and deterministic' (their statements: Qxb6603488aTotals.lean).
  GIVEN WITH THE SEED: the statements are not yours to turn. If you find one false, say at which input.
  Laid BY PROGRAM, IN A SANDBOX (cutbox-rows.mjs): the forced cells as the released guide's own fill.sh prints them over the translation 064f8d55a18896dc… (all of the seat's roots in one cut). By AI agents, Wed Nov 11 2026. No macro, syntax, notation, axiom, sorry.
-/
import Derived.Test.Qxb6603488aChecked
import GoSem.Claim
import GoSem.ClaimJoined
import GoSem.ClaimMapViews
import Derived.JoinedTies
import Derived.KernelRfl
namespace Go.Proofs.Qxb6603488a
/- THE CELL 'sum', in the pinned program and in every row, IS THE sha256 OF THE DUMP (.gsa) THAT Qxb6603488aProg.lean LOADS. Nothing in Lean hashes anything: it is a label: what it is worth is what the hold of that sum in a sandbox is worth. -/
noncomputable def Try.pinned : Pinned := { name := "qxb6603488a", sum := "064f8d55a18896dc12829e2d9ad26a6df1644b3b024e7a8adc240cc01cf052ee", checked := Try.checked }
namespace Rows
def none {H : Type} : Left H := { results := [], args := [] }

/-- 'zzlaws_internal_ledger_b1.FnValidAssetLeadingLetterFreesTail': WHATEVER THE INPUT: true; the input reads as it did. -/
def fnValidAssetLeadingLetterFreesTailSpec : ChangeSpec := { name := "fnValidAssetLeadingLetterFreesTail", fn := fun _ => fun
  | [d] => { results := [.lit (.bool true)], args := [d] }
  | _ => none }
def fnValidAssetLeadingLetterFreesTailRow : OpenClaim := { program := "qxb6603488a", sum := "064f8d55a18896dc12829e2d9ad26a6df1644b3b024e7a8adc240cc01cf052ee", func := "example.com/tallyhold/tallyhold/zzlaws_internal_ledger_b1.FnValidAssetLeadingLetterFreesTail", spec := "fnValidAssetLeadingLetterFreesTail", inPlace := ["internal/bytealg.IndexByteString", "internal/bytealg.IndexString"], named := ["internal/bytealg.MaxLen"], apart := false }
def FnValidAssetLeadingLetterFreesTailSaid : Prop := fnValidAssetLeadingLetterFreesTailRow.holds Try.pinned (OpenSpec.ofChange fnValidAssetLeadingLetterFreesTailSpec)

/-- ITS FALSE NEIGHBOUR: 'it returns false'. Refute it at one input. -/
def fnValidAssetLeadingLetterFreesTailWrong : ChangeSpec := { name := "fnValidAssetLeadingLetterFreesTail", fn := fun _ => fun
  | [d] => { results := [.lit (.bool false)], args := [d] }
  | _ => none }
def FnValidAssetLeadingLetterFreesTailWrongFalsely : Prop := fnValidAssetLeadingLetterFreesTailRow.holds Try.pinned (OpenSpec.ofChange fnValidAssetLeadingLetterFreesTailWrong)

/-- 'zzlaws_internal_ledger_b1.FnExternalIsFirstColonAfterExternal': WHATEVER THE INPUT: true; the input reads as it did. -/
def fnExternalIsFirstColonAfterExternalSpec : ChangeSpec := { name := "fnExternalIsFirstColonAfterExternal", fn := fun _ => fun
  | [d] => { results := [.lit (.bool true)], args := [d] }
  | _ => none }
def fnExternalIsFirstColonAfterExternalRow : OpenClaim := { program := "qxb6603488a", sum := "064f8d55a18896dc12829e2d9ad26a6df1644b3b024e7a8adc240cc01cf052ee", func := "example.com/tallyhold/tallyhold/zzlaws_internal_ledger_b1.FnExternalIsFirstColonAfterExternal", spec := "fnExternalIsFirstColonAfterExternal", apart := false }
def FnExternalIsFirstColonAfterExternalSaid : Prop := fnExternalIsFirstColonAfterExternalRow.holds Try.pinned (OpenSpec.ofChange fnExternalIsFirstColonAfterExternalSpec)

/-- ITS FALSE NEIGHBOUR: 'it returns false'. Refute it at one input. -/
def fnExternalIsFirstColonAfterExternalWrong : ChangeSpec := { name := "fnExternalIsFirstColonAfterExternal", fn := fun _ => fun
  | [d] => { results := [.lit (.bool false)], args := [d] }
  | _ => none }
def FnExternalIsFirstColonAfterExternalWrongFalsely : Prop := fnExternalIsFirstColonAfterExternalRow.holds Try.pinned (OpenSpec.ofChange fnExternalIsFirstColonAfterExternalWrong)

end Rows
end Go.Proofs.Qxb6603488a
