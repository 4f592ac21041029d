/-
  No cell of these rows narrows 'for every input' (looked for: loops, veiled, ifaces, maps, wideKeys, modest, calm, conditions, laid).
  DERIVED. THE GIVEN ROWS OF THIS SEAT. 4 by the template 'for every input the law returns true; each argument reads behind the call as it read before'; 0 by the template 'total and deterministic' (their statements: Qxb6617845aTotals.lean).
  GIVEN WITH THE SEED: the statements are not yours to turn. If you find one false, say at which input.
  Laid BY PROGRAM, IN A SANDBOX (cutbox-rows.mjs): the forced cells as the released guide's own fill.sh prints them over the translation bd7852ffc3053009… (all of the seat's roots in one cut). By AI agents, Wed Nov 11 2026. No macro, syntax, notation, axiom, sorry.
-/
import Derived.Test.Qxb6617845aChecked
import GoSem.Claim
import GoSem.ClaimJoined
import GoSem.ClaimMapViews
import Derived.JoinedTies
import Derived.KernelRfl
namespace Go.Proofs.Qxb6617845a
/- THE CELL 'sum', in the pinned program and in every row, IS THE sha256 OF THE DUMP (.gsa) THAT Qxb6617845aProg.lean LOADS. Nothing in Lean hashes anything: it is a label: what it is worth is what the hold of that sum in a sandbox is worth. -/
noncomputable def Try.pinned : Pinned := { name := "qxb6617845a", sum := "bd7852ffc3053009e373881e2add954e2fd99d48a961272e4a5999a0fda6dac8", checked := Try.checked }
namespace Rows
def none {H : Type} : Left H := { results := [], args := [] }

/-- 'zzlaws_pkg_decimal_b1.FnAllDigitsJoinAnyCut': WHATEVER THE INPUT: true; the input reads as it did. -/
def fnAllDigitsJoinAnyCutSpec : ChangeSpec := { name := "fnAllDigitsJoinAnyCut", fn := fun _ => fun
  | [d1, d2, d3] => { results := [.lit (.bool true)], args := [d1, d2, d3] }
  | _ => none }
def fnAllDigitsJoinAnyCutRow : OpenClaim := { program := "qxb6617845a", sum := "bd7852ffc3053009e373881e2add954e2fd99d48a961272e4a5999a0fda6dac8", func := "example.com/tierline/tierline/zzlaws_pkg_decimal_b1.FnAllDigitsJoinAnyCut", spec := "fnAllDigitsJoinAnyCut", apart := false }
def FnAllDigitsJoinAnyCutSaid : Prop := fnAllDigitsJoinAnyCutRow.holds Try.pinned (OpenSpec.ofChange fnAllDigitsJoinAnyCutSpec)

/-- ITS FALSE NEIGHBOUR: 'it returns false'. Refute it at one input. -/
def fnAllDigitsJoinAnyCutWrong : ChangeSpec := { name := "fnAllDigitsJoinAnyCut", fn := fun _ => fun
  | [d1, d2, d3] => { results := [.lit (.bool false)], args := [d1, d2, d3] }
  | _ => none }
def FnAllDigitsJoinAnyCutWrongFalsely : Prop := fnAllDigitsJoinAnyCutRow.holds Try.pinned (OpenSpec.ofChange fnAllDigitsJoinAnyCutWrong)

/-- 'zzlaws_pkg_decimal_b1.FnAllDigitsOneStrangerSinks': WHATEVER THE INPUT: true; the input reads as it did. -/
def fnAllDigitsOneStrangerSinksSpec : ChangeSpec := { name := "fnAllDigitsOneStrangerSinks", fn := fun _ => fun
  | [d1, d2, d3, d4] => { results := [.lit (.bool true)], args := [d1, d2, d3, d4] }
  | _ => none }
def fnAllDigitsOneStrangerSinksRow : OpenClaim := { program := "qxb6617845a", sum := "bd7852ffc3053009e373881e2add954e2fd99d48a961272e4a5999a0fda6dac8", func := "example.com/tierline/tierline/zzlaws_pkg_decimal_b1.FnAllDigitsOneStrangerSinks", spec := "fnAllDigitsOneStrangerSinks", apart := false }
def FnAllDigitsOneStrangerSinksSaid : Prop := fnAllDigitsOneStrangerSinksRow.holds Try.pinned (OpenSpec.ofChange fnAllDigitsOneStrangerSinksSpec)

/-- ITS FALSE NEIGHBOUR: 'it returns false'. Refute it at one input. -/
def fnAllDigitsOneStrangerSinksWrong : ChangeSpec := { name := "fnAllDigitsOneStrangerSinks", fn := fun _ => fun
  | [d1, d2, d3, d4] => { results := [.lit (.bool false)], args := [d1, d2, d3, d4] }
  | _ => none }
def FnAllDigitsOneStrangerSinksWrongFalsely : Prop := fnAllDigitsOneStrangerSinksRow.holds Try.pinned (OpenSpec.ofChange fnAllDigitsOneStrangerSinksWrong)

/-- 'zzlaws_pkg_decimal_b1.FnMagnitudeDistanceOnTheLine': WHATEVER THE INPUT: true; the input reads as it did. -/
def fnMagnitudeDistanceOnTheLineSpec : ChangeSpec := { name := "fnMagnitudeDistanceOnTheLine", fn := fun _ => fun
  | [d1, d2] => { results := [.lit (.bool true)], args := [d1, d2] }
  | _ => none }
def fnMagnitudeDistanceOnTheLineRow : OpenClaim := { program := "qxb6617845a", sum := "bd7852ffc3053009e373881e2add954e2fd99d48a961272e4a5999a0fda6dac8", func := "example.com/tierline/tierline/zzlaws_pkg_decimal_b1.FnMagnitudeDistanceOnTheLine", spec := "fnMagnitudeDistanceOnTheLine", apart := false }
def FnMagnitudeDistanceOnTheLineSaid : Prop := fnMagnitudeDistanceOnTheLineRow.holds Try.pinned (OpenSpec.ofChange fnMagnitudeDistanceOnTheLineSpec)

/-- ITS FALSE NEIGHBOUR: 'it returns false'. Refute it at one input. -/
def fnMagnitudeDistanceOnTheLineWrong : ChangeSpec := { name := "fnMagnitudeDistanceOnTheLine", fn := fun _ => fun
  | [d1, d2] => { results := [.lit (.bool false)], args := [d1, d2] }
  | _ => none }
def FnMagnitudeDistanceOnTheLineWrongFalsely : Prop := fnMagnitudeDistanceOnTheLineRow.holds Try.pinned (OpenSpec.ofChange fnMagnitudeDistanceOnTheLineWrong)

/-- 'zzlaws_pkg_decimal_b1.FnMagnitudeSignFreeSquare': WHATEVER THE INPUT: true; the input reads as it did. -/
def fnMagnitudeSignFreeSquareSpec : ChangeSpec := { name := "fnMagnitudeSignFreeSquare", fn := fun _ => fun
  | [d] => { results := [.lit (.bool true)], args := [d] }
  | _ => none }
def fnMagnitudeSignFreeSquareRow : OpenClaim := { program := "qxb6617845a", sum := "bd7852ffc3053009e373881e2add954e2fd99d48a961272e4a5999a0fda6dac8", func := "example.com/tierline/tierline/zzlaws_pkg_decimal_b1.FnMagnitudeSignFreeSquare", spec := "fnMagnitudeSignFreeSquare", apart := false }
def FnMagnitudeSignFreeSquareSaid : Prop := fnMagnitudeSignFreeSquareRow.holds Try.pinned (OpenSpec.ofChange fnMagnitudeSignFreeSquareSpec)

/-- ITS FALSE NEIGHBOUR: 'it returns false'. Refute it at one input. -/
def fnMagnitudeSignFreeSquareWrong : ChangeSpec := { name := "fnMagnitudeSignFreeSquare", fn := fun _ => fun
  | [d] => { results := [.lit (.bool false)], args := [d] }
  | _ => none }
def FnMagnitudeSignFreeSquareWrongFalsely : Prop := fnMagnitudeSignFreeSquareRow.holds Try.pinned (OpenSpec.ofChange fnMagnitudeSignFreeSquareWrong)

end Rows
end Go.Proofs.Qxb6617845a
