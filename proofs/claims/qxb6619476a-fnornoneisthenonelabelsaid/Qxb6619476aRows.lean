/-
  No cell of these rows narrows 'for every input' (looked for: loops, veiled, ifaces, maps, wideKeys, modest, calm, conditions, laid).
  DERIVED. THE GIVEN ROWS OF THIS SEAT. 1 by the template 'for every input the law returns true; each argument reads behind the call as it read before'; 0 by the template 'total and deterministic' (their statements: Qxb6619476aTotals.lean).
  GIVEN WITH THE SEED: the statements are not yours to turn. If you find one false, say at which input.
  Laid BY PROGRAM, IN A SANDBOX (cutbox-rows.mjs): the forced cells as the released guide's own fill.sh prints them over the translation 8d0dec16febe1be5… (all of the seat's roots in one cut). By AI agents, Wed Nov 11 2026. No macro, syntax, notation, axiom, sorry.
-/
import Derived.Test.Qxb6619476aChecked
import GoSem.Claim
import GoSem.ClaimJoined
import GoSem.ClaimMapViews
import Derived.JoinedTies
import Derived.KernelRfl
namespace Go.Proofs.Qxb6619476a
/- THE CELL 'sum', in the pinned program and in every row, IS THE sha256 OF THE DUMP (.gsa) THAT Qxb6619476aProg.lean LOADS. Nothing in Lean hashes anything: it is a label: what it is worth is what the hold of that sum in a sandbox is worth. -/
noncomputable def Try.pinned : Pinned := { name := "qxb6619476a", sum := "8d0dec16febe1be51090212a94c7a768a15ff73e31dd9225b4eb3f843ca9b4db", checked := Try.checked }
namespace Rows
def none {H : Type} : Left H := { results := [], args := [] }

/-- 'zzlaws_internal_kv_b1.FnOrNoneIsTheNoneLabel': WHATEVER THE INPUT: true; the input reads as it did. -/
def fnOrNoneIsTheNoneLabelSpec : ChangeSpec := { name := "fnOrNoneIsTheNoneLabel", fn := fun _ => fun
  | [d1, d2] => { results := [.lit (.bool true)], args := [d1, d2] }
  | _ => none }
def fnOrNoneIsTheNoneLabelRow : OpenClaim := { program := "qxb6619476a", sum := "8d0dec16febe1be51090212a94c7a768a15ff73e31dd9225b4eb3f843ca9b4db", func := "example.com/quorumshift/quorumshift/zzlaws_internal_kv_b1.FnOrNoneIsTheNoneLabel", spec := "fnOrNoneIsTheNoneLabel", apart := false }
def FnOrNoneIsTheNoneLabelSaid : Prop := fnOrNoneIsTheNoneLabelRow.holds Try.pinned (OpenSpec.ofChange fnOrNoneIsTheNoneLabelSpec)

/-- ITS FALSE NEIGHBOUR: 'it returns false'. Refute it at one input. -/
def fnOrNoneIsTheNoneLabelWrong : ChangeSpec := { name := "fnOrNoneIsTheNoneLabel", fn := fun _ => fun
  | [d1, d2] => { results := [.lit (.bool false)], args := [d1, d2] }
  | _ => none }
def FnOrNoneIsTheNoneLabelWrongFalsely : Prop := fnOrNoneIsTheNoneLabelRow.holds Try.pinned (OpenSpec.ofChange fnOrNoneIsTheNoneLabelWrong)

end Rows
end Go.Proofs.Qxb6619476a
