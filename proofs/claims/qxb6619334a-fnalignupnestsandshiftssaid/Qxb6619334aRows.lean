/-
  No cell of these rows narrows 'for every input' (looked for: loops, veiled, ifaces, maps, wideKeys, modest, calm, conditions, laid).
  DERIVED. THE GIVEN ROWS OF THIS SEAT. 2 by the template 'for every input the law returns true; each argument reads behind the call as it read before'; 0 by the template 'total and deterministic' (their statements: Qxb6619334aTotals.lean).
  GIVEN WITH THE SEED: the statements are not yours to turn. If you find one false, say at which input.
  Laid BY PROGRAM, IN A SANDBOX (cutbox-rows.mjs): the forced cells as the released guide's own fill.sh prints them over the translation fc295986cb109c59… (all of the seat's roots in one cut). By AI agents, Wed Nov 11 2026. No macro, syntax, notation, axiom, sorry.
-/
import Derived.Test.Qxb6619334aChecked
import GoSem.Claim
import GoSem.ClaimJoined
import GoSem.ClaimMapViews
import Derived.JoinedTies
import Derived.KernelRfl
namespace Go.Proofs.Qxb6619334a
/- THE CELL 'sum', in the pinned program and in every row, IS THE sha256 OF THE DUMP (.gsa) THAT Qxb6619334aProg.lean LOADS. Nothing in Lean hashes anything: it is a label: what it is worth is what the hold of that sum in a sandbox is worth. -/
noncomputable def Try.pinned : Pinned := { name := "qxb6619334a", sum := "fc295986cb109c59c48d2907d2e9d3b2eaa795bb30e1a57aed86af9e73b3f8a0", checked := Try.checked }
namespace Rows
def none {H : Type} : Left H := { results := [], args := [] }

/-- 'zzlaws_gorelease_b1.FnAlignUpIsLeastMultipleAtOrAbove': WHATEVER THE INPUT: true; the input reads as it did. -/
def fnAlignUpIsLeastMultipleAtOrAboveSpec : ChangeSpec := { name := "fnAlignUpIsLeastMultipleAtOrAbove", fn := fun _ => fun
  | [d1, d2] => { results := [.lit (.bool true)], args := [d1, d2] }
  | _ => none }
def fnAlignUpIsLeastMultipleAtOrAboveRow : OpenClaim := { program := "qxb6619334a", sum := "fc295986cb109c59c48d2907d2e9d3b2eaa795bb30e1a57aed86af9e73b3f8a0", func := "example.com/causeway/causeway/zzlaws_gorelease_b1.FnAlignUpIsLeastMultipleAtOrAbove", spec := "fnAlignUpIsLeastMultipleAtOrAbove", apart := false }
def FnAlignUpIsLeastMultipleAtOrAboveSaid : Prop := fnAlignUpIsLeastMultipleAtOrAboveRow.holds Try.pinned (OpenSpec.ofChange fnAlignUpIsLeastMultipleAtOrAboveSpec)

/-- ITS FALSE NEIGHBOUR: 'it returns false'. Refute it at one input. -/
def fnAlignUpIsLeastMultipleAtOrAboveWrong : ChangeSpec := { name := "fnAlignUpIsLeastMultipleAtOrAbove", fn := fun _ => fun
  | [d1, d2] => { results := [.lit (.bool false)], args := [d1, d2] }
  | _ => none }
def FnAlignUpIsLeastMultipleAtOrAboveWrongFalsely : Prop := fnAlignUpIsLeastMultipleAtOrAboveRow.holds Try.pinned (OpenSpec.ofChange fnAlignUpIsLeastMultipleAtOrAboveWrong)

/-- 'zzlaws_gorelease_b1.FnAlignUpNestsAndShifts': WHATEVER THE INPUT: true; the input reads as it did. -/
def fnAlignUpNestsAndShiftsSpec : ChangeSpec := { name := "fnAlignUpNestsAndShifts", fn := fun _ => fun
  | [d1, d2, d3] => { results := [.lit (.bool true)], args := [d1, d2, d3] }
  | _ => none }
def fnAlignUpNestsAndShiftsRow : OpenClaim := { program := "qxb6619334a", sum := "fc295986cb109c59c48d2907d2e9d3b2eaa795bb30e1a57aed86af9e73b3f8a0", func := "example.com/causeway/causeway/zzlaws_gorelease_b1.FnAlignUpNestsAndShifts", spec := "fnAlignUpNestsAndShifts", apart := false }
def FnAlignUpNestsAndShiftsSaid : Prop := fnAlignUpNestsAndShiftsRow.holds Try.pinned (OpenSpec.ofChange fnAlignUpNestsAndShiftsSpec)

/-- ITS FALSE NEIGHBOUR: 'it returns false'. Refute it at one input. -/
def fnAlignUpNestsAndShiftsWrong : ChangeSpec := { name := "fnAlignUpNestsAndShifts", fn := fun _ => fun
  | [d1, d2, d3] => { results := [.lit (.bool false)], args := [d1, d2, d3] }
  | _ => none }
def FnAlignUpNestsAndShiftsWrongFalsely : Prop := fnAlignUpNestsAndShiftsRow.holds Try.pinned (OpenSpec.ofChange fnAlignUpNestsAndShiftsWrong)

end Rows
end Go.Proofs.Qxb6619334a
