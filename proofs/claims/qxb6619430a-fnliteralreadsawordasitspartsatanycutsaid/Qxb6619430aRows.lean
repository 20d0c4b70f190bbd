/-
  No cell of these rows narrows 'for every input' (looked for: loops, veiled, ifaces, maps, wideKeys, modest, calm, conditions, laid).
  DERIVED. THE GIVEN ROWS OF THIS SEAT. 3 by the template 'for every input the law returns true; each argument reads behind the call as it read before'; 0 by the template 'total and deterministic' (their statements: Qxb6619430aTotals.lean).
  GIVEN WITH THE SEED: the statements are not yours to turn. If you find one false, say at which input.
  Laid BY PROGRAM, IN A SANDBOX (cutbox-rows.mjs): the forced cells as the released guide's own fill.sh prints them over the translation 9bfa780975401b46… (all of the seat's roots in one cut). By AI agents, Wed Nov 11 2026. No macro, syntax, notation, axiom, sorry.
-/
import Derived.Test.Qxb6619430aChecked
import GoSem.Claim
import GoSem.ClaimJoined
import GoSem.ClaimMapViews
import Derived.JoinedTies
import Derived.KernelRfl
namespace Go.Proofs.Qxb6619430a
/- THE CELL 'sum', in the pinned program and in every row, IS THE sha256 OF THE DUMP (.gsa) THAT Qxb6619430aProg.lean LOADS. Nothing in Lean hashes anything: it is a label: what it is worth is what the hold of that sum in a sandbox is worth. -/
noncomputable def Try.pinned : Pinned := { name := "qxb6619430a", sum := "9bfa780975401b4626965659762faf58fa18b8791da952456d957ae21446bde2", checked := Try.checked }
namespace Rows
def none {H : Type} : Left H := { results := [], args := [] }

/-- 'zzlaws_pkg_jsonio_b1.FnLiteralReadsAWordAsItsPartsAtAnyCut': WHATEVER THE INPUT: true; the input reads as it did. -/
def fnLiteralReadsAWordAsItsPartsAtAnyCutSpec : ChangeSpec := { name := "fnLiteralReadsAWordAsItsPartsAtAnyCut", fn := fun _ => fun
  | [d1, d2, d3, d4, d5] => { results := [.lit (.bool true)], args := [d1, d2, d3, d4, d5] }
  | _ => none }
def fnLiteralReadsAWordAsItsPartsAtAnyCutRow : OpenClaim := { program := "qxb6619430a", sum := "9bfa780975401b4626965659762faf58fa18b8791da952456d957ae21446bde2", func := "example.com/lerin/lerin/zzlaws_pkg_jsonio_b1.FnLiteralReadsAWordAsItsPartsAtAnyCut", spec := "fnLiteralReadsAWordAsItsPartsAtAnyCut", apart := false }
def FnLiteralReadsAWordAsItsPartsAtAnyCutSaid : Prop := fnLiteralReadsAWordAsItsPartsAtAnyCutRow.holds Try.pinned (OpenSpec.ofChange fnLiteralReadsAWordAsItsPartsAtAnyCutSpec)

/-- ITS FALSE NEIGHBOUR: 'it returns false'. Refute it at one input. -/
def fnLiteralReadsAWordAsItsPartsAtAnyCutWrong : ChangeSpec := { name := "fnLiteralReadsAWordAsItsPartsAtAnyCut", fn := fun _ => fun
  | [d1, d2, d3, d4, d5] => { results := [.lit (.bool false)], args := [d1, d2, d3, d4, d5] }
  | _ => none }
def FnLiteralReadsAWordAsItsPartsAtAnyCutWrongFalsely : Prop := fnLiteralReadsAWordAsItsPartsAtAnyCutRow.holds Try.pinned (OpenSpec.ofChange fnLiteralReadsAWordAsItsPartsAtAnyCutWrong)

/-- 'zzlaws_pkg_jsonio_b1.FnDigitsReadsTheWholeRunAtAnyCut': WHATEVER THE INPUT: true; the input reads as it did. -/
def fnDigitsReadsTheWholeRunAtAnyCutSpec : ChangeSpec := { name := "fnDigitsReadsTheWholeRunAtAnyCut", fn := fun _ => fun
  | [d1, d2, d3, d4] => { results := [.lit (.bool true)], args := [d1, d2, d3, d4] }
  | _ => none }
def fnDigitsReadsTheWholeRunAtAnyCutRow : OpenClaim := { program := "qxb6619430a", sum := "9bfa780975401b4626965659762faf58fa18b8791da952456d957ae21446bde2", func := "example.com/lerin/lerin/zzlaws_pkg_jsonio_b1.FnDigitsReadsTheWholeRunAtAnyCut", spec := "fnDigitsReadsTheWholeRunAtAnyCut", apart := false }
def FnDigitsReadsTheWholeRunAtAnyCutSaid : Prop := fnDigitsReadsTheWholeRunAtAnyCutRow.holds Try.pinned (OpenSpec.ofChange fnDigitsReadsTheWholeRunAtAnyCutSpec)

/-- ITS FALSE NEIGHBOUR: 'it returns false'. Refute it at one input. -/
def fnDigitsReadsTheWholeRunAtAnyCutWrong : ChangeSpec := { name := "fnDigitsReadsTheWholeRunAtAnyCut", fn := fun _ => fun
  | [d1, d2, d3, d4] => { results := [.lit (.bool false)], args := [d1, d2, d3, d4] }
  | _ => none }
def FnDigitsReadsTheWholeRunAtAnyCutWrongFalsely : Prop := fnDigitsReadsTheWholeRunAtAnyCutRow.holds Try.pinned (OpenSpec.ofChange fnDigitsReadsTheWholeRunAtAnyCutWrong)

/-- 'zzlaws_pkg_jsonio_b1.FnNextSkipsWhiteSpaceAtAnyCut': WHATEVER THE INPUT: true; the input reads as it did. -/
def fnNextSkipsWhiteSpaceAtAnyCutSpec : ChangeSpec := { name := "fnNextSkipsWhiteSpaceAtAnyCut", fn := fun _ => fun
  | [d1, d2, d3, d4] => { results := [.lit (.bool true)], args := [d1, d2, d3, d4] }
  | _ => none }
def fnNextSkipsWhiteSpaceAtAnyCutRow : OpenClaim := { program := "qxb6619430a", sum := "9bfa780975401b4626965659762faf58fa18b8791da952456d957ae21446bde2", func := "example.com/lerin/lerin/zzlaws_pkg_jsonio_b1.FnNextSkipsWhiteSpaceAtAnyCut", spec := "fnNextSkipsWhiteSpaceAtAnyCut", apart := false }
def FnNextSkipsWhiteSpaceAtAnyCutSaid : Prop := fnNextSkipsWhiteSpaceAtAnyCutRow.holds Try.pinned (OpenSpec.ofChange fnNextSkipsWhiteSpaceAtAnyCutSpec)

/-- ITS FALSE NEIGHBOUR: 'it returns false'. Refute it at one input. -/
def fnNextSkipsWhiteSpaceAtAnyCutWrong : ChangeSpec := { name := "fnNextSkipsWhiteSpaceAtAnyCut", fn := fun _ => fun
  | [d1, d2, d3, d4] => { results := [.lit (.bool false)], args := [d1, d2, d3, d4] }
  | _ => none }
def FnNextSkipsWhiteSpaceAtAnyCutWrongFalsely : Prop := fnNextSkipsWhiteSpaceAtAnyCutRow.holds Try.pinned (OpenSpec.ofChange fnNextSkipsWhiteSpaceAtAnyCutWrong)

end Rows
end Go.Proofs.Qxb6619430a
