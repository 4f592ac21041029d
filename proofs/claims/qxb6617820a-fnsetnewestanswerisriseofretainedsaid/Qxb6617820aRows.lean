/-
  No cell of these rows narrows 'for every input' (looked for: loops, veiled, ifaces, maps, wideKeys, modest, calm, conditions, laid).
  DERIVED. THE GIVEN ROWS OF THIS SEAT. 5 by the template 'for every input the law returns true; each argument reads behind the call as it read before'; 0 by the template 'total and deterministic' (their statements: Qxb6617820aTotals.lean).
  GIVEN WITH THE SEED: the statements are not yours to turn. If you find one false, say at which input.
  Laid BY PROGRAM, IN A SANDBOX (cutbox-rows.mjs): the forced cells as the released guide's own fill.sh prints them over the translation 94d5af22d0ea0ae7… (all of the seat's roots in one cut). By AI agents, Wed Nov 11 2026. No macro, syntax, notation, axiom, sorry.
-/
import Derived.Test.Qxb6617820aChecked
import GoSem.Claim
import GoSem.ClaimJoined
import GoSem.ClaimMapViews
import Derived.JoinedTies
import Derived.KernelRfl
namespace Go.Proofs.Qxb6617820a
/- THE CELL 'sum', in the pinned program and in every row, IS THE sha256 OF THE DUMP (.gsa) THAT Qxb6617820aProg.lean LOADS. Nothing in Lean hashes anything: it is a label: what it is worth is what the hold of that sum in a sandbox is worth. -/
noncomputable def Try.pinned : Pinned := { name := "qxb6617820a", sum := "94d5af22d0ea0ae7614843e15ceb8ee29216539b5bfecd2ef7e9e1664ea57ffe", checked := Try.checked }
namespace Rows
def none {H : Type} : Left H := { results := [], args := [] }

/-- 'zzlaws_root_b1.FnAppendEscapedDecodesBack': WHATEVER THE INPUT: true; the input reads as it did. -/
def fnAppendEscapedDecodesBackSpec : ChangeSpec := { name := "fnAppendEscapedDecodesBack", fn := fun _ => fun
  | [d1, d2] => { results := [.lit (.bool true)], args := [d1, d2] }
  | _ => none }
def fnAppendEscapedDecodesBackRow : OpenClaim := { program := "qxb6617820a", sum := "94d5af22d0ea0ae7614843e15ceb8ee29216539b5bfecd2ef7e9e1664ea57ffe", func := "example.com/undoline/undoline/zzlaws_root_b1.FnAppendEscapedDecodesBack", spec := "fnAppendEscapedDecodesBack", inPlace := ["internal/bytealg.IndexByte"], apart := false }
def FnAppendEscapedDecodesBackSaid : Prop := fnAppendEscapedDecodesBackRow.holds Try.pinned (OpenSpec.ofChange fnAppendEscapedDecodesBackSpec)

/-- ITS FALSE NEIGHBOUR: 'it returns false'. Refute it at one input. -/
def fnAppendEscapedDecodesBackWrong : ChangeSpec := { name := "fnAppendEscapedDecodesBack", fn := fun _ => fun
  | [d1, d2] => { results := [.lit (.bool false)], args := [d1, d2] }
  | _ => none }
def FnAppendEscapedDecodesBackWrongFalsely : Prop := fnAppendEscapedDecodesBackRow.holds Try.pinned (OpenSpec.ofChange fnAppendEscapedDecodesBackWrong)

/-- 'zzlaws_root_b1.FnAppendEscapedSplitsAtAnyCut': WHATEVER THE INPUT: true; the input reads as it did. -/
def fnAppendEscapedSplitsAtAnyCutSpec : ChangeSpec := { name := "fnAppendEscapedSplitsAtAnyCut", fn := fun _ => fun
  | [d1, d2, d3] => { results := [.lit (.bool true)], args := [d1, d2, d3] }
  | _ => none }
def fnAppendEscapedSplitsAtAnyCutRow : OpenClaim := { program := "qxb6617820a", sum := "94d5af22d0ea0ae7614843e15ceb8ee29216539b5bfecd2ef7e9e1664ea57ffe", func := "example.com/undoline/undoline/zzlaws_root_b1.FnAppendEscapedSplitsAtAnyCut", spec := "fnAppendEscapedSplitsAtAnyCut", inPlace := ["internal/bytealg.IndexByte"], apart := false }
def FnAppendEscapedSplitsAtAnyCutSaid : Prop := fnAppendEscapedSplitsAtAnyCutRow.holds Try.pinned (OpenSpec.ofChange fnAppendEscapedSplitsAtAnyCutSpec)

/-- ITS FALSE NEIGHBOUR: 'it returns false'. Refute it at one input. -/
def fnAppendEscapedSplitsAtAnyCutWrong : ChangeSpec := { name := "fnAppendEscapedSplitsAtAnyCut", fn := fun _ => fun
  | [d1, d2, d3] => { results := [.lit (.bool false)], args := [d1, d2, d3] }
  | _ => none }
def FnAppendEscapedSplitsAtAnyCutWrongFalsely : Prop := fnAppendEscapedSplitsAtAnyCutRow.holds Try.pinned (OpenSpec.ofChange fnAppendEscapedSplitsAtAnyCutWrong)

/-- 'zzlaws_root_b1.FnAppendEscapedKeepsKeyOrder': WHATEVER THE INPUT: true; the input reads as it did. -/
def fnAppendEscapedKeepsKeyOrderSpec : ChangeSpec := { name := "fnAppendEscapedKeepsKeyOrder", fn := fun _ => fun
  | [d1, d2, d3] => { results := [.lit (.bool true)], args := [d1, d2, d3] }
  | _ => none }
def fnAppendEscapedKeepsKeyOrderRow : OpenClaim := { program := "qxb6617820a", sum := "94d5af22d0ea0ae7614843e15ceb8ee29216539b5bfecd2ef7e9e1664ea57ffe", func := "example.com/undoline/undoline/zzlaws_root_b1.FnAppendEscapedKeepsKeyOrder", spec := "fnAppendEscapedKeepsKeyOrder", inPlace := ["internal/bytealg.IndexByte"], apart := false }
def FnAppendEscapedKeepsKeyOrderSaid : Prop := fnAppendEscapedKeepsKeyOrderRow.holds Try.pinned (OpenSpec.ofChange fnAppendEscapedKeepsKeyOrderSpec)

/-- ITS FALSE NEIGHBOUR: 'it returns false'. Refute it at one input. -/
def fnAppendEscapedKeepsKeyOrderWrong : ChangeSpec := { name := "fnAppendEscapedKeepsKeyOrder", fn := fun _ => fun
  | [d1, d2, d3] => { results := [.lit (.bool false)], args := [d1, d2, d3] }
  | _ => none }
def FnAppendEscapedKeepsKeyOrderWrongFalsely : Prop := fnAppendEscapedKeepsKeyOrderRow.holds Try.pinned (OpenSpec.ofChange fnAppendEscapedKeepsKeyOrderWrong)

/-- 'zzlaws_root_b1.FnSetNewestAnswerIsRiseOfRetained': WHATEVER THE INPUT: true; the input reads as it did. -/
def fnSetNewestAnswerIsRiseOfRetainedSpec : ChangeSpec := { name := "fnSetNewestAnswerIsRiseOfRetained", fn := fun _ => fun
  | [d1, d2, d3, d4, d5] => { results := [.lit (.bool true)], args := [d1, d2, d3, d4, d5] }
  | _ => none }
def fnSetNewestAnswerIsRiseOfRetainedRow : OpenClaim := { program := "qxb6617820a", sum := "94d5af22d0ea0ae7614843e15ceb8ee29216539b5bfecd2ef7e9e1664ea57ffe", func := "example.com/undoline/undoline/zzlaws_root_b1.FnSetNewestAnswerIsRiseOfRetained", spec := "fnSetNewestAnswerIsRiseOfRetained", apart := false }
def FnSetNewestAnswerIsRiseOfRetainedSaid : Prop := fnSetNewestAnswerIsRiseOfRetainedRow.holds Try.pinned (OpenSpec.ofChange fnSetNewestAnswerIsRiseOfRetainedSpec)

/-- ITS FALSE NEIGHBOUR: 'it returns false'. Refute it at one input. -/
def fnSetNewestAnswerIsRiseOfRetainedWrong : ChangeSpec := { name := "fnSetNewestAnswerIsRiseOfRetained", fn := fun _ => fun
  | [d1, d2, d3, d4, d5] => { results := [.lit (.bool false)], args := [d1, d2, d3, d4, d5] }
  | _ => none }
def FnSetNewestAnswerIsRiseOfRetainedWrongFalsely : Prop := fnSetNewestAnswerIsRiseOfRetainedRow.holds Try.pinned (OpenSpec.ofChange fnSetNewestAnswerIsRiseOfRetainedWrong)

/-- 'zzlaws_root_b1.FnSetNewestPushThenPopRestores': WHATEVER THE INPUT: true; the input reads as it did. -/
def fnSetNewestPushThenPopRestoresSpec : ChangeSpec := { name := "fnSetNewestPushThenPopRestores", fn := fun _ => fun
  | [d1, d2] => { results := [.lit (.bool true)], args := [d1, d2] }
  | _ => none }
def fnSetNewestPushThenPopRestoresRow : OpenClaim := { program := "qxb6617820a", sum := "94d5af22d0ea0ae7614843e15ceb8ee29216539b5bfecd2ef7e9e1664ea57ffe", func := "example.com/undoline/undoline/zzlaws_root_b1.FnSetNewestPushThenPopRestores", spec := "fnSetNewestPushThenPopRestores", apart := false }
def FnSetNewestPushThenPopRestoresSaid : Prop := fnSetNewestPushThenPopRestoresRow.holds Try.pinned (OpenSpec.ofChange fnSetNewestPushThenPopRestoresSpec)

/-- ITS FALSE NEIGHBOUR: 'it returns false'. Refute it at one input. -/
def fnSetNewestPushThenPopRestoresWrong : ChangeSpec := { name := "fnSetNewestPushThenPopRestores", fn := fun _ => fun
  | [d1, d2] => { results := [.lit (.bool false)], args := [d1, d2] }
  | _ => none }
def FnSetNewestPushThenPopRestoresWrongFalsely : Prop := fnSetNewestPushThenPopRestoresRow.holds Try.pinned (OpenSpec.ofChange fnSetNewestPushThenPopRestoresWrong)

end Rows
end Go.Proofs.Qxb6617820a
