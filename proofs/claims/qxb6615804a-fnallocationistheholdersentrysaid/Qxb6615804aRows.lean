/-
  No cell of these rows narrows 'for every input' (looked for: loops, veiled, ifaces, maps, wideKeys, modest, calm, conditions, laid).
  DERIVED. THE GIVEN ROWS OF THIS SEAT. 3 by the template 'for every input the law returns true; each argument reads behind the call as it read before'; 0 by the template 'total and deterministic' (their statements: Qxb6615804aTotals.lean).
  GIVEN WITH THE SEED: the statements are not yours to turn. If you find one false, say at which input.
  Laid BY PROGRAM, IN A SANDBOX (cutbox-rows.mjs): the forced cells as the released guide's own fill.sh prints them over the translation ba67210441a4f317… (all of the seat's roots in one cut). By AI agents, Wed Nov 11 2026. No macro, syntax, notation, axiom, sorry.
-/
import Derived.Test.Qxb6615804aChecked
import GoSem.Claim
import GoSem.ClaimJoined
import GoSem.ClaimMapViews
import Derived.JoinedTies
import Derived.KernelRfl
namespace Go.Proofs.Qxb6615804a
/- THE CELL 'sum', in the pinned program and in every row, IS THE sha256 OF THE DUMP (.gsa) THAT Qxb6615804aProg.lean LOADS. Nothing in Lean hashes anything: it is a label: what it is worth is what the hold of that sum in a sandbox is worth. -/
noncomputable def Try.pinned : Pinned := { name := "qxb6615804a", sum := "ba67210441a4f31737178a0bc1c20b5019cec4ad79e352b36cb9c31573f63fe4", checked := Try.checked }
namespace Rows
def none {H : Type} : Left H := { results := [], args := [] }

/-- 'zzlaws_internal_alloc_b1.FnAllocationIsTheHoldersEntry': WHATEVER THE INPUT: true; the input reads as it did. -/
def fnAllocationIsTheHoldersEntrySpec : ChangeSpec := { name := "fnAllocationIsTheHoldersEntry", fn := fun _ => fun
  | [d1, d2, d3, d4, d5, d6, d7, d8, d9] => { results := [.lit (.bool true)], args := [d1, d2, d3, d4, d5, d6, d7, d8, d9] }
  | _ => none }
def fnAllocationIsTheHoldersEntryRow : OpenClaim := { program := "qxb6615804a", sum := "ba67210441a4f31737178a0bc1c20b5019cec4ad79e352b36cb9c31573f63fe4", func := "example.com/allotment/allotment/zzlaws_internal_alloc_b1.FnAllocationIsTheHoldersEntry", spec := "fnAllocationIsTheHoldersEntry", unfollowed := true, recurses := true, apart := false }
def FnAllocationIsTheHoldersEntrySaid : Prop := fnAllocationIsTheHoldersEntryRow.holds Try.pinned (OpenSpec.ofChange fnAllocationIsTheHoldersEntrySpec)

/-- ITS FALSE NEIGHBOUR: 'it returns false'. Refute it at one input. -/
def fnAllocationIsTheHoldersEntryWrong : ChangeSpec := { name := "fnAllocationIsTheHoldersEntry", fn := fun _ => fun
  | [d1, d2, d3, d4, d5, d6, d7, d8, d9] => { results := [.lit (.bool false)], args := [d1, d2, d3, d4, d5, d6, d7, d8, d9] }
  | _ => none }
def FnAllocationIsTheHoldersEntryWrongFalsely : Prop := fnAllocationIsTheHoldersEntryRow.holds Try.pinned (OpenSpec.ofChange fnAllocationIsTheHoldersEntryWrong)

/-- 'zzlaws_internal_alloc_b1.FnFindIsLowerBound': WHATEVER THE INPUT: true; the input reads as it did. -/
def fnFindIsLowerBoundSpec : ChangeSpec := { name := "fnFindIsLowerBound", fn := fun _ => fun
  | [d1, d2, d3, d4, d5, d6, d7, d8, d9] => { results := [.lit (.bool true)], args := [d1, d2, d3, d4, d5, d6, d7, d8, d9] }
  | _ => none }
def fnFindIsLowerBoundRow : OpenClaim := { program := "qxb6615804a", sum := "ba67210441a4f31737178a0bc1c20b5019cec4ad79e352b36cb9c31573f63fe4", func := "example.com/allotment/allotment/zzlaws_internal_alloc_b1.FnFindIsLowerBound", spec := "fnFindIsLowerBound", unfollowed := true, recurses := true, apart := false }
def FnFindIsLowerBoundSaid : Prop := fnFindIsLowerBoundRow.holds Try.pinned (OpenSpec.ofChange fnFindIsLowerBoundSpec)

/-- ITS FALSE NEIGHBOUR: 'it returns false'. Refute it at one input. -/
def fnFindIsLowerBoundWrong : ChangeSpec := { name := "fnFindIsLowerBound", fn := fun _ => fun
  | [d1, d2, d3, d4, d5, d6, d7, d8, d9] => { results := [.lit (.bool false)], args := [d1, d2, d3, d4, d5, d6, d7, d8, d9] }
  | _ => none }
def FnFindIsLowerBoundWrongFalsely : Prop := fnFindIsLowerBoundRow.holds Try.pinned (OpenSpec.ofChange fnFindIsLowerBoundWrong)

/-- 'zzlaws_internal_alloc_b1.FnEveryHolderFoundAtItsIndex': WHATEVER THE INPUT: true; the input reads as it did. -/
def fnEveryHolderFoundAtItsIndexSpec : ChangeSpec := { name := "fnEveryHolderFoundAtItsIndex", fn := fun _ => fun
  | [d1, d2, d3, d4, d5, d6, d7] => { results := [.lit (.bool true)], args := [d1, d2, d3, d4, d5, d6, d7] }
  | _ => none }
def fnEveryHolderFoundAtItsIndexRow : OpenClaim := { program := "qxb6615804a", sum := "ba67210441a4f31737178a0bc1c20b5019cec4ad79e352b36cb9c31573f63fe4", func := "example.com/allotment/allotment/zzlaws_internal_alloc_b1.FnEveryHolderFoundAtItsIndex", spec := "fnEveryHolderFoundAtItsIndex", unfollowed := true, recurses := true, apart := false }
def FnEveryHolderFoundAtItsIndexSaid : Prop := fnEveryHolderFoundAtItsIndexRow.holds Try.pinned (OpenSpec.ofChange fnEveryHolderFoundAtItsIndexSpec)

/-- ITS FALSE NEIGHBOUR: 'it returns false'. Refute it at one input. -/
def fnEveryHolderFoundAtItsIndexWrong : ChangeSpec := { name := "fnEveryHolderFoundAtItsIndex", fn := fun _ => fun
  | [d1, d2, d3, d4, d5, d6, d7] => { results := [.lit (.bool false)], args := [d1, d2, d3, d4, d5, d6, d7] }
  | _ => none }
def FnEveryHolderFoundAtItsIndexWrongFalsely : Prop := fnEveryHolderFoundAtItsIndexRow.holds Try.pinned (OpenSpec.ofChange fnEveryHolderFoundAtItsIndexWrong)

end Rows
end Go.Proofs.Qxb6615804a
