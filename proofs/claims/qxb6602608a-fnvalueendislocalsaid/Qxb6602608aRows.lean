/-
  No cell of these rows narrows 'for every input' (looked for: loops, veiled, ifaces, maps, wideKeys, modest, calm, conditions, laid).
  DERIVED. THE GIVEN ROWS OF THIS SEAT. 6 by the template 'for every input the law returns true; each argument reads behind the call as it read before'; 0 by the template 'total and deterministic' (their statements: Qxb6602608aTotals.lean).
  GIVEN WITH THE SEED: the statements are not yours to turn. If you find one false, say at which input.
  Laid BY PROGRAM, IN A SANDBOX (cutbox-rows.mjs): the forced cells as the released guide's own fill.sh prints them over the translation 7e69dc4389deaabb… (all of the seat's roots in one cut). By AI agents, Wed Nov 11 2026. No macro, syntax, notation, axiom, sorry.
-/
import Derived.Test.Qxb6602608aChecked
import GoSem.Claim
import GoSem.ClaimJoined
import GoSem.ClaimMapViews
import Derived.JoinedTies
import Derived.KernelRfl
namespace Go.Proofs.Qxb6602608a
/- THE CELL 'sum', in the pinned program and in every row, IS THE sha256 OF THE DUMP (.gsa) THAT Qxb6602608aProg.lean LOADS. Nothing in Lean hashes anything: it is a label: what it is worth is what the hold of that sum in a sandbox is worth. -/
noncomputable def Try.pinned : Pinned := { name := "qxb6602608a", sum := "7e69dc4389deaabba8e1851db3a04d655f1a99968c5e70df8a89af7ed14596de", checked := Try.checked }
namespace Rows
def none {H : Type} : Left H := { results := [], args := [] }

/-- 'zzlaws_keys_b1.FnMemberIndexIsFirstMatch': WHATEVER THE INPUT: true; the input reads as it did. -/
def fnMemberIndexIsFirstMatchSpec : ChangeSpec := { name := "fnMemberIndexIsFirstMatch", fn := fun _ => fun
  | [d1, d2] => { results := [.lit (.bool true)], args := [d1, d2] }
  | _ => none }
def fnMemberIndexIsFirstMatchRow : OpenClaim := { program := "qxb6602608a", sum := "7e69dc4389deaabba8e1851db3a04d655f1a99968c5e70df8a89af7ed14596de", func := "example.com/portcullis/portcullis/zzlaws_keys_b1.FnMemberIndexIsFirstMatch", spec := "fnMemberIndexIsFirstMatch", apart := false }
def FnMemberIndexIsFirstMatchSaid : Prop := fnMemberIndexIsFirstMatchRow.holds Try.pinned (OpenSpec.ofChange fnMemberIndexIsFirstMatchSpec)

/-- ITS FALSE NEIGHBOUR: 'it returns false'. Refute it at one input. -/
def fnMemberIndexIsFirstMatchWrong : ChangeSpec := { name := "fnMemberIndexIsFirstMatch", fn := fun _ => fun
  | [d1, d2] => { results := [.lit (.bool false)], args := [d1, d2] }
  | _ => none }
def FnMemberIndexIsFirstMatchWrongFalsely : Prop := fnMemberIndexIsFirstMatchRow.holds Try.pinned (OpenSpec.ofChange fnMemberIndexIsFirstMatchWrong)

/-- 'zzlaws_keys_b1.FnMemberIndexAppendedIsFound': WHATEVER THE INPUT: true; the input reads as it did. -/
def fnMemberIndexAppendedIsFoundSpec : ChangeSpec := { name := "fnMemberIndexAppendedIsFound", fn := fun _ => fun
  | [d1, d2] => { results := [.lit (.bool true)], args := [d1, d2] }
  | _ => none }
def fnMemberIndexAppendedIsFoundRow : OpenClaim := { program := "qxb6602608a", sum := "7e69dc4389deaabba8e1851db3a04d655f1a99968c5e70df8a89af7ed14596de", func := "example.com/portcullis/portcullis/zzlaws_keys_b1.FnMemberIndexAppendedIsFound", spec := "fnMemberIndexAppendedIsFound", apart := false }
def FnMemberIndexAppendedIsFoundSaid : Prop := fnMemberIndexAppendedIsFoundRow.holds Try.pinned (OpenSpec.ofChange fnMemberIndexAppendedIsFoundSpec)

/-- ITS FALSE NEIGHBOUR: 'it returns false'. Refute it at one input. -/
def fnMemberIndexAppendedIsFoundWrong : ChangeSpec := { name := "fnMemberIndexAppendedIsFound", fn := fun _ => fun
  | [d1, d2] => { results := [.lit (.bool false)], args := [d1, d2] }
  | _ => none }
def FnMemberIndexAppendedIsFoundWrongFalsely : Prop := fnMemberIndexAppendedIsFoundRow.holds Try.pinned (OpenSpec.ofChange fnMemberIndexAppendedIsFoundWrong)

/-- 'zzlaws_keys_b1.FnFieldIndexIsFirstExactMatch': WHATEVER THE INPUT: true; the input reads as it did. -/
def fnFieldIndexIsFirstExactMatchSpec : ChangeSpec := { name := "fnFieldIndexIsFirstExactMatch", fn := fun _ => fun
  | [d1, d2] => { results := [.lit (.bool true)], args := [d1, d2] }
  | _ => none }
def fnFieldIndexIsFirstExactMatchRow : OpenClaim := { program := "qxb6602608a", sum := "7e69dc4389deaabba8e1851db3a04d655f1a99968c5e70df8a89af7ed14596de", func := "example.com/portcullis/portcullis/zzlaws_keys_b1.FnFieldIndexIsFirstExactMatch", spec := "fnFieldIndexIsFirstExactMatch", apart := false }
def FnFieldIndexIsFirstExactMatchSaid : Prop := fnFieldIndexIsFirstExactMatchRow.holds Try.pinned (OpenSpec.ofChange fnFieldIndexIsFirstExactMatchSpec)

/-- ITS FALSE NEIGHBOUR: 'it returns false'. Refute it at one input. -/
def fnFieldIndexIsFirstExactMatchWrong : ChangeSpec := { name := "fnFieldIndexIsFirstExactMatch", fn := fun _ => fun
  | [d1, d2] => { results := [.lit (.bool false)], args := [d1, d2] }
  | _ => none }
def FnFieldIndexIsFirstExactMatchWrongFalsely : Prop := fnFieldIndexIsFirstExactMatchRow.holds Try.pinned (OpenSpec.ofChange fnFieldIndexIsFirstExactMatchWrong)

/-- 'zzlaws_keys_b1.FnFieldIndexAppendedIsFound': WHATEVER THE INPUT: true; the input reads as it did. -/
def fnFieldIndexAppendedIsFoundSpec : ChangeSpec := { name := "fnFieldIndexAppendedIsFound", fn := fun _ => fun
  | [d1, d2] => { results := [.lit (.bool true)], args := [d1, d2] }
  | _ => none }
def fnFieldIndexAppendedIsFoundRow : OpenClaim := { program := "qxb6602608a", sum := "7e69dc4389deaabba8e1851db3a04d655f1a99968c5e70df8a89af7ed14596de", func := "example.com/portcullis/portcullis/zzlaws_keys_b1.FnFieldIndexAppendedIsFound", spec := "fnFieldIndexAppendedIsFound", apart := false }
def FnFieldIndexAppendedIsFoundSaid : Prop := fnFieldIndexAppendedIsFoundRow.holds Try.pinned (OpenSpec.ofChange fnFieldIndexAppendedIsFoundSpec)

/-- ITS FALSE NEIGHBOUR: 'it returns false'. Refute it at one input. -/
def fnFieldIndexAppendedIsFoundWrong : ChangeSpec := { name := "fnFieldIndexAppendedIsFound", fn := fun _ => fun
  | [d1, d2] => { results := [.lit (.bool false)], args := [d1, d2] }
  | _ => none }
def FnFieldIndexAppendedIsFoundWrongFalsely : Prop := fnFieldIndexAppendedIsFoundRow.holds Try.pinned (OpenSpec.ofChange fnFieldIndexAppendedIsFoundWrong)

/-- 'zzlaws_keys_b1.FnValueEndMatchesParser': WHATEVER THE INPUT: true; the input reads as it did. -/
def fnValueEndMatchesParserSpec : ChangeSpec := { name := "fnValueEndMatchesParser", fn := fun _ => fun
  | [d1, d2] => { results := [.lit (.bool true)], args := [d1, d2] }
  | _ => none }
def fnValueEndMatchesParserRow : OpenClaim := { program := "qxb6602608a", sum := "7e69dc4389deaabba8e1851db3a04d655f1a99968c5e70df8a89af7ed14596de", func := "example.com/portcullis/portcullis/zzlaws_keys_b1.FnValueEndMatchesParser", spec := "fnValueEndMatchesParser", recurses := true, apart := false }
def FnValueEndMatchesParserSaid : Prop := fnValueEndMatchesParserRow.holds Try.pinned (OpenSpec.ofChange fnValueEndMatchesParserSpec)

/-- ITS FALSE NEIGHBOUR: 'it returns false'. Refute it at one input. -/
def fnValueEndMatchesParserWrong : ChangeSpec := { name := "fnValueEndMatchesParser", fn := fun _ => fun
  | [d1, d2] => { results := [.lit (.bool false)], args := [d1, d2] }
  | _ => none }
def FnValueEndMatchesParserWrongFalsely : Prop := fnValueEndMatchesParserRow.holds Try.pinned (OpenSpec.ofChange fnValueEndMatchesParserWrong)

/-- 'zzlaws_keys_b1.FnValueEndIsLocal': WHATEVER THE INPUT: true; the input reads as it did. -/
def fnValueEndIsLocalSpec : ChangeSpec := { name := "fnValueEndIsLocal", fn := fun _ => fun
  | [d1, d2] => { results := [.lit (.bool true)], args := [d1, d2] }
  | _ => none }
def fnValueEndIsLocalRow : OpenClaim := { program := "qxb6602608a", sum := "7e69dc4389deaabba8e1851db3a04d655f1a99968c5e70df8a89af7ed14596de", func := "example.com/portcullis/portcullis/zzlaws_keys_b1.FnValueEndIsLocal", spec := "fnValueEndIsLocal", recurses := true, apart := false }
def FnValueEndIsLocalSaid : Prop := fnValueEndIsLocalRow.holds Try.pinned (OpenSpec.ofChange fnValueEndIsLocalSpec)

/-- ITS FALSE NEIGHBOUR: 'it returns false'. Refute it at one input. -/
def fnValueEndIsLocalWrong : ChangeSpec := { name := "fnValueEndIsLocal", fn := fun _ => fun
  | [d1, d2] => { results := [.lit (.bool false)], args := [d1, d2] }
  | _ => none }
def FnValueEndIsLocalWrongFalsely : Prop := fnValueEndIsLocalRow.holds Try.pinned (OpenSpec.ofChange fnValueEndIsLocalWrong)

end Rows
end Go.Proofs.Qxb6602608a
