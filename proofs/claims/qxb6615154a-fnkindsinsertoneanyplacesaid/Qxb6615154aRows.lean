/-
  No cell of these rows narrows 'for every input' (looked for: loops, veiled, ifaces, maps, wideKeys, modest, calm, conditions, laid).
  DERIVED. THE GIVEN ROWS OF THIS SEAT. 2 by the template 'for every input the law returns true; each argument reads behind the call as it read before'; 0 by the template 'total and deterministic' (their statements: Qxb6615154aTotals.lean).
  GIVEN WITH THE SEED: the statements are not yours to turn. If you find one false, say at which input.
  Laid BY PROGRAM, IN A SANDBOX (cutbox-rows.mjs): the forced cells as the released guide's own fill.sh prints them over the translation 92526a171484cb48… (all of the seat's roots in one cut). By AI agents, Wed Nov 11 2026. No macro, syntax, notation, axiom, sorry.
-/
import Derived.Test.Qxb6615154aChecked
import GoSem.Claim
import GoSem.ClaimJoined
import GoSem.ClaimMapViews
import Derived.JoinedTies
import Derived.KernelRfl
namespace Go.Proofs.Qxb6615154a
/- THE CELL 'sum', in the pinned program and in every row, IS THE sha256 OF THE DUMP (.gsa) THAT Qxb6615154aProg.lean LOADS. Nothing in Lean hashes anything: it is a label: what it is worth is what the hold of that sum in a sandbox is worth. -/
noncomputable def Try.pinned : Pinned := { name := "qxb6615154a", sum := "92526a171484cb480efb66479d3775d8b05ebee4c3eef820812874be787d2e9f", checked := Try.checked }
namespace Rows
def none {H : Type} : Left H := { results := [], args := [] }

/-- 'zzlaws_internal_adjust_b1.FnKindsSplitsAtAnyCut': WHATEVER THE INPUT: true; the input reads as it did. -/
def fnKindsSplitsAtAnyCutSpec : ChangeSpec := { name := "fnKindsSplitsAtAnyCut", fn := fun _ => fun
  | [d1, d2, d3] => { results := [.lit (.bool true)], args := [d1, d2, d3] }
  | _ => none }
def fnKindsSplitsAtAnyCutRow : OpenClaim := { program := "qxb6615154a", sum := "92526a171484cb480efb66479d3775d8b05ebee4c3eef820812874be787d2e9f", func := "example.com/vestwright/vestwright/zzlaws_internal_adjust_b1.FnKindsSplitsAtAnyCut", spec := "fnKindsSplitsAtAnyCut", apart := false }
def FnKindsSplitsAtAnyCutSaid : Prop := fnKindsSplitsAtAnyCutRow.holds Try.pinned (OpenSpec.ofChange fnKindsSplitsAtAnyCutSpec)

/-- ITS FALSE NEIGHBOUR: 'it returns false'. Refute it at one input. -/
def fnKindsSplitsAtAnyCutWrong : ChangeSpec := { name := "fnKindsSplitsAtAnyCut", fn := fun _ => fun
  | [d1, d2, d3] => { results := [.lit (.bool false)], args := [d1, d2, d3] }
  | _ => none }
def FnKindsSplitsAtAnyCutWrongFalsely : Prop := fnKindsSplitsAtAnyCutRow.holds Try.pinned (OpenSpec.ofChange fnKindsSplitsAtAnyCutWrong)

/-- 'zzlaws_internal_adjust_b1.FnKindsInsertOneAnyPlace': WHATEVER THE INPUT: true; the input reads as it did. -/
def fnKindsInsertOneAnyPlaceSpec : ChangeSpec := { name := "fnKindsInsertOneAnyPlace", fn := fun _ => fun
  | [d1, d2, d3, d4] => { results := [.lit (.bool true)], args := [d1, d2, d3, d4] }
  | _ => none }
def fnKindsInsertOneAnyPlaceRow : OpenClaim := { program := "qxb6615154a", sum := "92526a171484cb480efb66479d3775d8b05ebee4c3eef820812874be787d2e9f", func := "example.com/vestwright/vestwright/zzlaws_internal_adjust_b1.FnKindsInsertOneAnyPlace", spec := "fnKindsInsertOneAnyPlace", apart := false }
def FnKindsInsertOneAnyPlaceSaid : Prop := fnKindsInsertOneAnyPlaceRow.holds Try.pinned (OpenSpec.ofChange fnKindsInsertOneAnyPlaceSpec)

/-- ITS FALSE NEIGHBOUR: 'it returns false'. Refute it at one input. -/
def fnKindsInsertOneAnyPlaceWrong : ChangeSpec := { name := "fnKindsInsertOneAnyPlace", fn := fun _ => fun
  | [d1, d2, d3, d4] => { results := [.lit (.bool false)], args := [d1, d2, d3, d4] }
  | _ => none }
def FnKindsInsertOneAnyPlaceWrongFalsely : Prop := fnKindsInsertOneAnyPlaceRow.holds Try.pinned (OpenSpec.ofChange fnKindsInsertOneAnyPlaceWrong)

end Rows
end Go.Proofs.Qxb6615154a
