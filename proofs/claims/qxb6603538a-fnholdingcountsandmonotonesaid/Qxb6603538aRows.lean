/-
  No cell of these rows narrows 'for every input' (looked for: loops, veiled, ifaces, maps, wideKeys, modest, calm, conditions, laid).
  DERIVED. THE GIVEN ROWS OF THIS SEAT. 2 by the template 'for every input the law returns true; each argument reads behind the call as it read before'; 0 by the template 'total and deterministic' (their statements: Qxb6603538aTotals.lean).
  GIVEN WITH THE SEED: the statements are not yours to turn. If you find one false, say at which input.
  Laid BY PROGRAM, IN A SANDBOX (cutbox-rows.mjs): the forced cells as the released guide's own fill.sh prints them over the translation f83d269e8ca8ecd5… (all of the seat's roots in one cut). By AI agents, Wed Nov 11 2026. No macro, syntax, notation, axiom, sorry.
-/
import Derived.Test.Qxb6603538aChecked
import GoSem.Claim
import GoSem.ClaimJoined
import GoSem.ClaimMapViews
import Derived.JoinedTies
import Derived.KernelRfl
namespace Go.Proofs.Qxb6603538a
/- THE CELL 'sum', in the pinned program and in every row, IS THE sha256 OF THE DUMP (.gsa) THAT Qxb6603538aProg.lean LOADS. Nothing in Lean hashes anything: it is a label: what it is worth is what the hold of that sum in a sandbox is worth. -/
noncomputable def Try.pinned : Pinned := { name := "qxb6603538a", sum := "f83d269e8ca8ecd56c1de9b4692192830f44afdf17e5301984fca8e4c5fe2593", checked := Try.checked }
namespace Rows
def none {H : Type} : Left H := { results := [], args := [] }

/-- 'zzlaws_root_b1.FnHoldingNewestAtOrBefore': WHATEVER THE INPUT: true; the input reads as it did. -/
def fnHoldingNewestAtOrBeforeSpec : ChangeSpec := { name := "fnHoldingNewestAtOrBefore", fn := fun _ => fun
  | [d1, d2] => { results := [.lit (.bool true)], args := [d1, d2] }
  | _ => none }
def fnHoldingNewestAtOrBeforeRow : OpenClaim := { program := "qxb6603538a", sum := "f83d269e8ca8ecd56c1de9b4692192830f44afdf17e5301984fca8e4c5fe2593", func := "example.com/steadfeed/steadfeed/zzlaws_root_b1.FnHoldingNewestAtOrBefore", spec := "fnHoldingNewestAtOrBefore", unfollowed := true, recurses := true, apart := false }
def FnHoldingNewestAtOrBeforeSaid : Prop := fnHoldingNewestAtOrBeforeRow.holds Try.pinned (OpenSpec.ofChange fnHoldingNewestAtOrBeforeSpec)

/-- ITS FALSE NEIGHBOUR: 'it returns false'. Refute it at one input. -/
def fnHoldingNewestAtOrBeforeWrong : ChangeSpec := { name := "fnHoldingNewestAtOrBefore", fn := fun _ => fun
  | [d1, d2] => { results := [.lit (.bool false)], args := [d1, d2] }
  | _ => none }
def FnHoldingNewestAtOrBeforeWrongFalsely : Prop := fnHoldingNewestAtOrBeforeRow.holds Try.pinned (OpenSpec.ofChange fnHoldingNewestAtOrBeforeWrong)

/-- 'zzlaws_root_b1.FnHoldingCountsAndMonotone': WHATEVER THE INPUT: true; the input reads as it did. -/
def fnHoldingCountsAndMonotoneSpec : ChangeSpec := { name := "fnHoldingCountsAndMonotone", fn := fun _ => fun
  | [d1, d2, d3] => { results := [.lit (.bool true)], args := [d1, d2, d3] }
  | _ => none }
def fnHoldingCountsAndMonotoneRow : OpenClaim := { program := "qxb6603538a", sum := "f83d269e8ca8ecd56c1de9b4692192830f44afdf17e5301984fca8e4c5fe2593", func := "example.com/steadfeed/steadfeed/zzlaws_root_b1.FnHoldingCountsAndMonotone", spec := "fnHoldingCountsAndMonotone", unfollowed := true, recurses := true, apart := false }
def FnHoldingCountsAndMonotoneSaid : Prop := fnHoldingCountsAndMonotoneRow.holds Try.pinned (OpenSpec.ofChange fnHoldingCountsAndMonotoneSpec)

/-- ITS FALSE NEIGHBOUR: 'it returns false'. Refute it at one input. -/
def fnHoldingCountsAndMonotoneWrong : ChangeSpec := { name := "fnHoldingCountsAndMonotone", fn := fun _ => fun
  | [d1, d2, d3] => { results := [.lit (.bool false)], args := [d1, d2, d3] }
  | _ => none }
def FnHoldingCountsAndMonotoneWrongFalsely : Prop := fnHoldingCountsAndMonotoneRow.holds Try.pinned (OpenSpec.ofChange fnHoldingCountsAndMonotoneWrong)

end Rows
end Go.Proofs.Qxb6603538a
