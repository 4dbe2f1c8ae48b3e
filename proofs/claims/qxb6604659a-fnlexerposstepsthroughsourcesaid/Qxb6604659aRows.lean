/-
  No cell of these rows narrows 'for every input' (looked for: loops, veiled, ifaces, maps, wideKeys, modest, calm, conditions, laid).
  DERIVED. THE GIVEN ROWS OF THIS SEAT. 4 by the template 'for every input the law returns true; each argument reads behind the call as it read before'; 0 by the template 'total and deterministic' (their statements: Qxb6604659aTotals.lean).
  GIVEN WITH THE SEED: the statements are not yours to turn. If you find one false, say at which input.
  Laid BY PROGRAM, IN A SANDBOX (cutbox-rows.mjs): the forced cells as the released guide's own fill.sh prints them over the translation 6e48e76a51fe793d… (all of the seat's roots in one cut). By AI agents, Wed Nov 11 2026. No macro, syntax, notation, axiom, sorry.
-/
import Derived.Test.Qxb6604659aChecked
import GoSem.Claim
import GoSem.ClaimJoined
import GoSem.ClaimMapViews
import Derived.JoinedTies
import Derived.KernelRfl
namespace Go.Proofs.Qxb6604659a
/- THE CELL 'sum', in the pinned program and in every row, IS THE sha256 OF THE DUMP (.gsa) THAT Qxb6604659aProg.lean LOADS. Nothing in Lean hashes anything: it is a label: what it is worth is what the hold of that sum in a sandbox is worth. -/
noncomputable def Try.pinned : Pinned := { name := "qxb6604659a", sum := "6e48e76a51fe793d58f2501f5ccebf146e6f9d54070545489824f1f4a65243eb", checked := Try.checked }
namespace Rows
def none {H : Type} : Left H := { results := [], args := [] }

/-- 'zzlaws_internal_config_b1.FnLexerPosCountsFromLineStart': WHATEVER THE INPUT: true; the input reads as it did. -/
def fnLexerPosCountsFromLineStartSpec : ChangeSpec := { name := "fnLexerPosCountsFromLineStart", fn := fun _ => fun
  | [d1, d2, d3] => { results := [.lit (.bool true)], args := [d1, d2, d3] }
  | _ => none }
def fnLexerPosCountsFromLineStartRow : OpenClaim := { program := "qxb6604659a", sum := "6e48e76a51fe793d58f2501f5ccebf146e6f9d54070545489824f1f4a65243eb", func := "example.com/logsluice/logsluice/zzlaws_internal_config_b1.FnLexerPosCountsFromLineStart", spec := "fnLexerPosCountsFromLineStart", apart := false }
def FnLexerPosCountsFromLineStartSaid : Prop := fnLexerPosCountsFromLineStartRow.holds Try.pinned (OpenSpec.ofChange fnLexerPosCountsFromLineStartSpec)

/-- ITS FALSE NEIGHBOUR: 'it returns false'. Refute it at one input. -/
def fnLexerPosCountsFromLineStartWrong : ChangeSpec := { name := "fnLexerPosCountsFromLineStart", fn := fun _ => fun
  | [d1, d2, d3] => { results := [.lit (.bool false)], args := [d1, d2, d3] }
  | _ => none }
def FnLexerPosCountsFromLineStartWrongFalsely : Prop := fnLexerPosCountsFromLineStartRow.holds Try.pinned (OpenSpec.ofChange fnLexerPosCountsFromLineStartWrong)

/-- 'zzlaws_internal_config_b1.FnLexerPosStepsThroughSource': WHATEVER THE INPUT: true; the input reads as it did. -/
def fnLexerPosStepsThroughSourceSpec : ChangeSpec := { name := "fnLexerPosStepsThroughSource", fn := fun _ => fun
  | [d1, d2] => { results := [.lit (.bool true)], args := [d1, d2] }
  | _ => none }
def fnLexerPosStepsThroughSourceRow : OpenClaim := { program := "qxb6604659a", sum := "6e48e76a51fe793d58f2501f5ccebf146e6f9d54070545489824f1f4a65243eb", func := "example.com/logsluice/logsluice/zzlaws_internal_config_b1.FnLexerPosStepsThroughSource", spec := "fnLexerPosStepsThroughSource", apart := false }
def FnLexerPosStepsThroughSourceSaid : Prop := fnLexerPosStepsThroughSourceRow.holds Try.pinned (OpenSpec.ofChange fnLexerPosStepsThroughSourceSpec)

/-- ITS FALSE NEIGHBOUR: 'it returns false'. Refute it at one input. -/
def fnLexerPosStepsThroughSourceWrong : ChangeSpec := { name := "fnLexerPosStepsThroughSource", fn := fun _ => fun
  | [d1, d2] => { results := [.lit (.bool false)], args := [d1, d2] }
  | _ => none }
def FnLexerPosStepsThroughSourceWrongFalsely : Prop := fnLexerPosStepsThroughSourceRow.holds Try.pinned (OpenSpec.ofChange fnLexerPosStepsThroughSourceWrong)

/-- 'zzlaws_internal_config_b1.FnIsSpaceIsASCIIWhitespace': WHATEVER THE INPUT: true; the input reads as it did. -/
def fnIsSpaceIsASCIIWhitespaceSpec : ChangeSpec := { name := "fnIsSpaceIsASCIIWhitespace", fn := fun _ => fun
  | [d] => { results := [.lit (.bool true)], args := [d] }
  | _ => none }
def fnIsSpaceIsASCIIWhitespaceRow : OpenClaim := { program := "qxb6604659a", sum := "6e48e76a51fe793d58f2501f5ccebf146e6f9d54070545489824f1f4a65243eb", func := "example.com/logsluice/logsluice/zzlaws_internal_config_b1.FnIsSpaceIsASCIIWhitespace", spec := "fnIsSpaceIsASCIIWhitespace", apart := false }
def FnIsSpaceIsASCIIWhitespaceSaid : Prop := fnIsSpaceIsASCIIWhitespaceRow.holds Try.pinned (OpenSpec.ofChange fnIsSpaceIsASCIIWhitespaceSpec)

/-- ITS FALSE NEIGHBOUR: 'it returns false'. Refute it at one input. -/
def fnIsSpaceIsASCIIWhitespaceWrong : ChangeSpec := { name := "fnIsSpaceIsASCIIWhitespace", fn := fun _ => fun
  | [d] => { results := [.lit (.bool false)], args := [d] }
  | _ => none }
def FnIsSpaceIsASCIIWhitespaceWrongFalsely : Prop := fnIsSpaceIsASCIIWhitespaceRow.holds Try.pinned (OpenSpec.ofChange fnIsSpaceIsASCIIWhitespaceWrong)

/-- 'zzlaws_internal_config_b1.FnIsSpaceHoldsOfSixBytes': WHATEVER THE INPUT: true; the input reads as it did. -/
def fnIsSpaceHoldsOfSixBytesSpec : ChangeSpec := { name := "fnIsSpaceHoldsOfSixBytes", fn := fun _ => fun
  | [] => { results := [.lit (.bool true)], args := [] }
  | _ => none }
def fnIsSpaceHoldsOfSixBytesRow : OpenClaim := { program := "qxb6604659a", sum := "6e48e76a51fe793d58f2501f5ccebf146e6f9d54070545489824f1f4a65243eb", func := "example.com/logsluice/logsluice/zzlaws_internal_config_b1.FnIsSpaceHoldsOfSixBytes", spec := "fnIsSpaceHoldsOfSixBytes", apart := false }
def FnIsSpaceHoldsOfSixBytesSaid : Prop := fnIsSpaceHoldsOfSixBytesRow.holds Try.pinned (OpenSpec.ofChange fnIsSpaceHoldsOfSixBytesSpec)

/-- ITS FALSE NEIGHBOUR: 'it returns false'. Refute it at one input. -/
def fnIsSpaceHoldsOfSixBytesWrong : ChangeSpec := { name := "fnIsSpaceHoldsOfSixBytes", fn := fun _ => fun
  | [] => { results := [.lit (.bool false)], args := [] }
  | _ => none }
def FnIsSpaceHoldsOfSixBytesWrongFalsely : Prop := fnIsSpaceHoldsOfSixBytesRow.holds Try.pinned (OpenSpec.ofChange fnIsSpaceHoldsOfSixBytesWrong)

end Rows
end Go.Proofs.Qxb6604659a
