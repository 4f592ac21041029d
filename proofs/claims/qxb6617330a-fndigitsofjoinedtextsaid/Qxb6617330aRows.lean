/-
  No cell of these rows narrows 'for every input' (looked for: loops, veiled, ifaces, maps, wideKeys, modest, calm, conditions, laid).
  DERIVED. THE GIVEN ROWS OF THIS SEAT. 1 by the template 'for every input the law returns true; each argument reads behind the call as it read before'; 0 by the template 'total and deterministic' (their statements: Qxb6617330aTotals.lean).
  GIVEN WITH THE SEED: the statements are not yours to turn. If you find one false, say at which input.
  Laid BY PROGRAM, IN A SANDBOX (cutbox-rows.mjs): the forced cells as the released guide's own fill.sh prints them over the translation 59ab3d9a5b56d2b5… (all of the seat's roots in one cut). By AI agents, Wed Nov 11 2026. No macro, syntax, notation, axiom, sorry.
-/
import Derived.Test.Qxb6617330aChecked
import GoSem.Claim
import GoSem.ClaimJoined
import GoSem.ClaimMapViews
import Derived.JoinedTies
import Derived.KernelRfl
namespace Go.Proofs.Qxb6617330a
/- THE CELL 'sum', in the pinned program and in every row, IS THE sha256 OF THE DUMP (.gsa) THAT Qxb6617330aProg.lean LOADS. Nothing in Lean hashes anything: it is a label: what it is worth is what the hold of that sum in a sandbox is worth. -/
noncomputable def Try.pinned : Pinned := { name := "qxb6617330a", sum := "59ab3d9a5b56d2b5c8062a3505865fd89f731014f58317164c0d27cddb01d2b9", checked := Try.checked }
namespace Rows
def none {H : Type} : Left H := { results := [], args := [] }

/-- 'zzlaws_root_b1.FnDigitsOfJoinedText': WHATEVER THE INPUT: true; the input reads as it did. -/
def fnDigitsOfJoinedTextSpec : ChangeSpec := { name := "fnDigitsOfJoinedText", fn := fun _ => fun
  | [d1, d2] => { results := [.lit (.bool true)], args := [d1, d2] }
  | _ => none }
def fnDigitsOfJoinedTextRow : OpenClaim := { program := "qxb6617330a", sum := "59ab3d9a5b56d2b5c8062a3505865fd89f731014f58317164c0d27cddb01d2b9", func := "example.com/ballast/ballast/zzlaws_root_b1.FnDigitsOfJoinedText", spec := "fnDigitsOfJoinedText", apart := false }
def FnDigitsOfJoinedTextSaid : Prop := fnDigitsOfJoinedTextRow.holds Try.pinned (OpenSpec.ofChange fnDigitsOfJoinedTextSpec)

/-- ITS FALSE NEIGHBOUR: 'it returns false'. Refute it at one input. -/
def fnDigitsOfJoinedTextWrong : ChangeSpec := { name := "fnDigitsOfJoinedText", fn := fun _ => fun
  | [d1, d2] => { results := [.lit (.bool false)], args := [d1, d2] }
  | _ => none }
def FnDigitsOfJoinedTextWrongFalsely : Prop := fnDigitsOfJoinedTextRow.holds Try.pinned (OpenSpec.ofChange fnDigitsOfJoinedTextWrong)

end Rows
end Go.Proofs.Qxb6617330a
