/-
  No cell of these rows narrows 'for every input' (looked for: loops, veiled, ifaces, maps, wideKeys, modest, calm, conditions, laid).
  DERIVED. THE GIVEN ROWS OF THIS SEAT. 3 by the template 'for every input the law returns true; each argument reads behind the call as it read before'; 0 by the template 'total and deterministic' (their statements: Qxb6617238aTotals.lean).
  GIVEN WITH THE SEED: the statements are not yours to turn. If you find one false, say at which input.
  Laid BY PROGRAM, IN A SANDBOX (cutbox-rows.mjs): the forced cells as the released guide's own fill.sh prints them over the translation 8e42771dafd9b1a4… (all of the seat's roots in one cut). By AI agents, Wed Nov 11 2026. No macro, syntax, notation, axiom, sorry.
-/
import Derived.Test.Qxb6617238aChecked
import GoSem.Claim
import GoSem.ClaimJoined
import GoSem.ClaimMapViews
import Derived.JoinedTies
import Derived.KernelRfl
namespace Go.Proofs.Qxb6617238a
/- THE CELL 'sum', in the pinned program and in every row, IS THE sha256 OF THE DUMP (.gsa) THAT Qxb6617238aProg.lean LOADS. Nothing in Lean hashes anything: it is a label: what it is worth is what the hold of that sum in a sandbox is worth. -/
noncomputable def Try.pinned : Pinned := { name := "qxb6617238a", sum := "8e42771dafd9b1a48cfefbd41c0e55424e4b935f105b5a8c801e35f064900eec", checked := Try.checked }
namespace Rows
def none {H : Type} : Left H := { results := [], args := [] }

/-- 'zzlaws_internal_syntax_b1.FnSkipSpaceMatchesCommentAutomaton': WHATEVER THE INPUT: true; the input reads as it did. -/
def fnSkipSpaceMatchesCommentAutomatonSpec : ChangeSpec := { name := "fnSkipSpaceMatchesCommentAutomaton", fn := fun _ => fun
  | [d1, d2, d3, d4] => { results := [.lit (.bool true)], args := [d1, d2, d3, d4] }
  | _ => none }
def fnSkipSpaceMatchesCommentAutomatonRow : OpenClaim := { program := "qxb6617238a", sum := "8e42771dafd9b1a48cfefbd41c0e55424e4b935f105b5a8c801e35f064900eec", func := "example.com/mortise/mortise/zzlaws_internal_syntax_b1.FnSkipSpaceMatchesCommentAutomaton", spec := "fnSkipSpaceMatchesCommentAutomaton", inPlace := ["internal/bytealg.IndexByteString"], apart := false }
def FnSkipSpaceMatchesCommentAutomatonSaid : Prop := fnSkipSpaceMatchesCommentAutomatonRow.holds Try.pinned (OpenSpec.ofChange fnSkipSpaceMatchesCommentAutomatonSpec)

/-- ITS FALSE NEIGHBOUR: 'it returns false'. Refute it at one input. -/
def fnSkipSpaceMatchesCommentAutomatonWrong : ChangeSpec := { name := "fnSkipSpaceMatchesCommentAutomaton", fn := fun _ => fun
  | [d1, d2, d3, d4] => { results := [.lit (.bool false)], args := [d1, d2, d3, d4] }
  | _ => none }
def FnSkipSpaceMatchesCommentAutomatonWrongFalsely : Prop := fnSkipSpaceMatchesCommentAutomatonRow.holds Try.pinned (OpenSpec.ofChange fnSkipSpaceMatchesCommentAutomatonWrong)

/-- 'zzlaws_internal_syntax_b1.FnSkipSpaceNewlineModeStepsOverNewlines': WHATEVER THE INPUT: true; the input reads as it did. -/
def fnSkipSpaceNewlineModeStepsOverNewlinesSpec : ChangeSpec := { name := "fnSkipSpaceNewlineModeStepsOverNewlines", fn := fun _ => fun
  | [d1, d2, d3] => { results := [.lit (.bool true)], args := [d1, d2, d3] }
  | _ => none }
def fnSkipSpaceNewlineModeStepsOverNewlinesRow : OpenClaim := { program := "qxb6617238a", sum := "8e42771dafd9b1a48cfefbd41c0e55424e4b935f105b5a8c801e35f064900eec", func := "example.com/mortise/mortise/zzlaws_internal_syntax_b1.FnSkipSpaceNewlineModeStepsOverNewlines", spec := "fnSkipSpaceNewlineModeStepsOverNewlines", inPlace := ["internal/bytealg.IndexByteString"], apart := false }
def FnSkipSpaceNewlineModeStepsOverNewlinesSaid : Prop := fnSkipSpaceNewlineModeStepsOverNewlinesRow.holds Try.pinned (OpenSpec.ofChange fnSkipSpaceNewlineModeStepsOverNewlinesSpec)

/-- ITS FALSE NEIGHBOUR: 'it returns false'. Refute it at one input. -/
def fnSkipSpaceNewlineModeStepsOverNewlinesWrong : ChangeSpec := { name := "fnSkipSpaceNewlineModeStepsOverNewlines", fn := fun _ => fun
  | [d1, d2, d3] => { results := [.lit (.bool false)], args := [d1, d2, d3] }
  | _ => none }
def FnSkipSpaceNewlineModeStepsOverNewlinesWrongFalsely : Prop := fnSkipSpaceNewlineModeStepsOverNewlinesRow.holds Try.pinned (OpenSpec.ofChange fnSkipSpaceNewlineModeStepsOverNewlinesWrong)

/-- 'zzlaws_internal_syntax_b1.FnSkipDigitsStopsAtFirstNonDigitAtAnyCut': WHATEVER THE INPUT: true; the input reads as it did. -/
def fnSkipDigitsStopsAtFirstNonDigitAtAnyCutSpec : ChangeSpec := { name := "fnSkipDigitsStopsAtFirstNonDigitAtAnyCut", fn := fun _ => fun
  | [d1, d2, d3, d4] => { results := [.lit (.bool true)], args := [d1, d2, d3, d4] }
  | _ => none }
def fnSkipDigitsStopsAtFirstNonDigitAtAnyCutRow : OpenClaim := { program := "qxb6617238a", sum := "8e42771dafd9b1a48cfefbd41c0e55424e4b935f105b5a8c801e35f064900eec", func := "example.com/mortise/mortise/zzlaws_internal_syntax_b1.FnSkipDigitsStopsAtFirstNonDigitAtAnyCut", spec := "fnSkipDigitsStopsAtFirstNonDigitAtAnyCut", apart := false }
def FnSkipDigitsStopsAtFirstNonDigitAtAnyCutSaid : Prop := fnSkipDigitsStopsAtFirstNonDigitAtAnyCutRow.holds Try.pinned (OpenSpec.ofChange fnSkipDigitsStopsAtFirstNonDigitAtAnyCutSpec)

/-- ITS FALSE NEIGHBOUR: 'it returns false'. Refute it at one input. -/
def fnSkipDigitsStopsAtFirstNonDigitAtAnyCutWrong : ChangeSpec := { name := "fnSkipDigitsStopsAtFirstNonDigitAtAnyCut", fn := fun _ => fun
  | [d1, d2, d3, d4] => { results := [.lit (.bool false)], args := [d1, d2, d3, d4] }
  | _ => none }
def FnSkipDigitsStopsAtFirstNonDigitAtAnyCutWrongFalsely : Prop := fnSkipDigitsStopsAtFirstNonDigitAtAnyCutRow.holds Try.pinned (OpenSpec.ofChange fnSkipDigitsStopsAtFirstNonDigitAtAnyCutWrong)

end Rows
end Go.Proofs.Qxb6617238a
