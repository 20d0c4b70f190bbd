/-
  No cell of these rows narrows 'for every input' (looked for: loops, veiled, ifaces, maps, wideKeys, modest, calm, conditions, laid).
  DERIVED. THE GIVEN ROWS OF THIS SEAT. 2 by the template 'for every input the law returns true; each argument reads behind the call as it read before'; 0 by the template 'total and deterministic' (their statements: Qxb6619409aTotals.lean).
  GIVEN WITH THE SEED: the statements are not yours to turn. If you find one false, say at which input.
  Laid BY PROGRAM, IN A SANDBOX (cutbox-rows.mjs): the forced cells as the released guide's own fill.sh prints them over the translation c944fbc8c44e4e10… (all of the seat's roots in one cut). By AI agents, Wed Nov 11 2026. No macro, syntax, notation, axiom, sorry.
-/
import Derived.Test.Qxb6619409aChecked
import GoSem.Claim
import GoSem.ClaimJoined
import GoSem.ClaimMapViews
import Derived.JoinedTies
import Derived.KernelRfl
namespace Go.Proofs.Qxb6619409a
/- THE CELL 'sum', in the pinned program and in every row, IS THE sha256 OF THE DUMP (.gsa) THAT Qxb6619409aProg.lean LOADS. Nothing in Lean hashes anything: it is a label: what it is worth is what the hold of that sum in a sandbox is worth. -/
noncomputable def Try.pinned : Pinned := { name := "qxb6619409a", sum := "c944fbc8c44e4e10613414ca288a11ba576ab143b6953dfae0f93bb531c732be", checked := Try.checked }
namespace Rows
def none {H : Type} : Left H := { results := [], args := [] }

/-- 'zzlaws_internal_history_b1.FnSameValueAgreesWithWriters': WHATEVER THE INPUT: true; the input reads as it did. -/
def fnSameValueAgreesWithWritersSpec : ChangeSpec := { name := "fnSameValueAgreesWithWriters", fn := fun _ => fun
  | [d1, d2] => { results := [.lit (.bool true)], args := [d1, d2] }
  | _ => none }
def fnSameValueAgreesWithWritersRow : OpenClaim := { program := "qxb6619409a", sum := "c944fbc8c44e4e10613414ca288a11ba576ab143b6953dfae0f93bb531c732be", func := "example.com/quorumsmith/quorumsmith/zzlaws_internal_history_b1.FnSameValueAgreesWithWriters", spec := "fnSameValueAgreesWithWriters", apart := false }
def FnSameValueAgreesWithWritersSaid : Prop := fnSameValueAgreesWithWritersRow.holds Try.pinned (OpenSpec.ofChange fnSameValueAgreesWithWritersSpec)

/-- ITS FALSE NEIGHBOUR: 'it returns false'. Refute it at one input. -/
def fnSameValueAgreesWithWritersWrong : ChangeSpec := { name := "fnSameValueAgreesWithWriters", fn := fun _ => fun
  | [d1, d2] => { results := [.lit (.bool false)], args := [d1, d2] }
  | _ => none }
def FnSameValueAgreesWithWritersWrongFalsely : Prop := fnSameValueAgreesWithWritersRow.holds Try.pinned (OpenSpec.ofChange fnSameValueAgreesWithWritersWrong)

/-- 'zzlaws_internal_history_b1.FnSameValueIsEquivalence': WHATEVER THE INPUT: true; the input reads as it did. -/
def fnSameValueIsEquivalenceSpec : ChangeSpec := { name := "fnSameValueIsEquivalence", fn := fun _ => fun
  | [d1, d2, d3] => { results := [.lit (.bool true)], args := [d1, d2, d3] }
  | _ => none }
def fnSameValueIsEquivalenceRow : OpenClaim := { program := "qxb6619409a", sum := "c944fbc8c44e4e10613414ca288a11ba576ab143b6953dfae0f93bb531c732be", func := "example.com/quorumsmith/quorumsmith/zzlaws_internal_history_b1.FnSameValueIsEquivalence", spec := "fnSameValueIsEquivalence", apart := false }
def FnSameValueIsEquivalenceSaid : Prop := fnSameValueIsEquivalenceRow.holds Try.pinned (OpenSpec.ofChange fnSameValueIsEquivalenceSpec)

/-- ITS FALSE NEIGHBOUR: 'it returns false'. Refute it at one input. -/
def fnSameValueIsEquivalenceWrong : ChangeSpec := { name := "fnSameValueIsEquivalence", fn := fun _ => fun
  | [d1, d2, d3] => { results := [.lit (.bool false)], args := [d1, d2, d3] }
  | _ => none }
def FnSameValueIsEquivalenceWrongFalsely : Prop := fnSameValueIsEquivalenceRow.holds Try.pinned (OpenSpec.ofChange fnSameValueIsEquivalenceWrong)

end Rows
end Go.Proofs.Qxb6619409a
