/-
  No cell of these rows narrows 'for every input' (looked for: loops, veiled, ifaces, maps, wideKeys, modest, calm, conditions, laid).
  DERIVED. THE GIVEN ROWS OF THIS SEAT. 6 by the template 'for every input the law returns true; each argument reads behind the call as it read before'; 0 by the template 'total and deterministic' (their statements: Qxb6601992aModsTotals.lean).
  GIVEN WITH THE SEED: the statements are not yours to turn. If you find one false, say at which input.
  Laid BY PROGRAM, IN A SANDBOX (cutbox-rows.mjs): the forced cells as the released guide's own fill.sh prints them over the translation 0b61b87a0a1eb7c0… (all of the seat's roots in one cut). By AI agents, Wed Nov 11 2026. No macro, syntax, notation, axiom, sorry.
-/
import Derived.Test.Qxb6601992aModsChecked
import GoSem.Claim
import GoSem.ClaimJoined
import GoSem.ClaimMapViews
import Derived.JoinedTies
import Derived.KernelRfl
namespace Go.Proofs.Qxb6601992aMods
/- THE CELL 'sum', in the pinned program and in every row, IS THE sha256 OF THE DUMP (.gsa) THAT Qxb6601992aModsProg.lean LOADS. Nothing in Lean hashes anything: it is a label: what it is worth is what the hold of that sum in a sandbox is worth. -/
noncomputable def Trym.pinned : Pinned := { name := "qxb6601992amods", sum := "0b61b87a0a1eb7c0fe5e5d3f46bded57f06183244ce400d8b4413ad36c937a72", checked := Trym.checked }
namespace Rows
def none {H : Type} : Left H := { results := [], args := [] }

/-- 'zzlaws_internal_manifest_b1.FnAppendJSONStringDecodesBack': WHATEVER THE INPUT: true; the input reads as it did. -/
def fnAppendJSONStringDecodesBackSpec : ChangeSpec := { name := "fnAppendJSONStringDecodesBack", fn := fun _ => fun
  | [d1, d2] => { results := [.lit (.bool true)], args := [d1, d2] }
  | _ => none }
def fnAppendJSONStringDecodesBackRow : OpenClaim := { program := "qxb6601992amods", sum := "0b61b87a0a1eb7c0fe5e5d3f46bded57f06183244ce400d8b4413ad36c937a72", func := "example.com/latticework/latticework/zzlaws_internal_manifest_b1.FnAppendJSONStringDecodesBack", spec := "fnAppendJSONStringDecodesBack", make := .lifted ["publicsums"], apart := false }
def FnAppendJSONStringDecodesBackSaid : Prop := fnAppendJSONStringDecodesBackRow.holds Trym.pinned (OpenSpec.ofChange fnAppendJSONStringDecodesBackSpec)

/-- ITS FALSE NEIGHBOUR: 'it returns false'. Refute it at one input. -/
def fnAppendJSONStringDecodesBackWrong : ChangeSpec := { name := "fnAppendJSONStringDecodesBack", fn := fun _ => fun
  | [d1, d2] => { results := [.lit (.bool false)], args := [d1, d2] }
  | _ => none }
def FnAppendJSONStringDecodesBackWrongFalsely : Prop := fnAppendJSONStringDecodesBackRow.holds Trym.pinned (OpenSpec.ofChange fnAppendJSONStringDecodesBackWrong)

/-- 'zzlaws_internal_manifest_b1.FnAppendJSONStringConcatenates': WHATEVER THE INPUT: true; the input reads as it did. -/
def fnAppendJSONStringConcatenatesSpec : ChangeSpec := { name := "fnAppendJSONStringConcatenates", fn := fun _ => fun
  | [d1, d2, d3] => { results := [.lit (.bool true)], args := [d1, d2, d3] }
  | _ => none }
def fnAppendJSONStringConcatenatesRow : OpenClaim := { program := "qxb6601992amods", sum := "0b61b87a0a1eb7c0fe5e5d3f46bded57f06183244ce400d8b4413ad36c937a72", func := "example.com/latticework/latticework/zzlaws_internal_manifest_b1.FnAppendJSONStringConcatenates", spec := "fnAppendJSONStringConcatenates", make := .lifted ["publicsums"], apart := false }
def FnAppendJSONStringConcatenatesSaid : Prop := fnAppendJSONStringConcatenatesRow.holds Trym.pinned (OpenSpec.ofChange fnAppendJSONStringConcatenatesSpec)

/-- ITS FALSE NEIGHBOUR: 'it returns false'. Refute it at one input. -/
def fnAppendJSONStringConcatenatesWrong : ChangeSpec := { name := "fnAppendJSONStringConcatenates", fn := fun _ => fun
  | [d1, d2, d3] => { results := [.lit (.bool false)], args := [d1, d2, d3] }
  | _ => none }
def FnAppendJSONStringConcatenatesWrongFalsely : Prop := fnAppendJSONStringConcatenatesRow.holds Trym.pinned (OpenSpec.ofChange fnAppendJSONStringConcatenatesWrong)

/-- 'zzlaws_internal_manifest_b1.FnAppendJSONStringLengthBounds': WHATEVER THE INPUT: true; the input reads as it did. -/
def fnAppendJSONStringLengthBoundsSpec : ChangeSpec := { name := "fnAppendJSONStringLengthBounds", fn := fun _ => fun
  | [d] => { results := [.lit (.bool true)], args := [d] }
  | _ => none }
def fnAppendJSONStringLengthBoundsRow : OpenClaim := { program := "qxb6601992amods", sum := "0b61b87a0a1eb7c0fe5e5d3f46bded57f06183244ce400d8b4413ad36c937a72", func := "example.com/latticework/latticework/zzlaws_internal_manifest_b1.FnAppendJSONStringLengthBounds", spec := "fnAppendJSONStringLengthBounds", make := .lifted ["publicsums"], apart := false }
def FnAppendJSONStringLengthBoundsSaid : Prop := fnAppendJSONStringLengthBoundsRow.holds Trym.pinned (OpenSpec.ofChange fnAppendJSONStringLengthBoundsSpec)

/-- ITS FALSE NEIGHBOUR: 'it returns false'. Refute it at one input. -/
def fnAppendJSONStringLengthBoundsWrong : ChangeSpec := { name := "fnAppendJSONStringLengthBounds", fn := fun _ => fun
  | [d] => { results := [.lit (.bool false)], args := [d] }
  | _ => none }
def FnAppendJSONStringLengthBoundsWrongFalsely : Prop := fnAppendJSONStringLengthBoundsRow.holds Trym.pinned (OpenSpec.ofChange fnAppendJSONStringLengthBoundsWrong)

/-- 'zzlaws_internal_manifest_b1.FnMayGiveNonSpecificTagMatchesAutomaton': WHATEVER THE INPUT: true; the input reads as it did. -/
def fnMayGiveNonSpecificTagMatchesAutomatonSpec : ChangeSpec := { name := "fnMayGiveNonSpecificTagMatchesAutomaton", fn := fun _ => fun
  | [d] => { results := [.lit (.bool true)], args := [d] }
  | _ => none }
def fnMayGiveNonSpecificTagMatchesAutomatonRow : OpenClaim := { program := "qxb6601992amods", sum := "0b61b87a0a1eb7c0fe5e5d3f46bded57f06183244ce400d8b4413ad36c937a72", func := "example.com/latticework/latticework/zzlaws_internal_manifest_b1.FnMayGiveNonSpecificTagMatchesAutomaton", spec := "fnMayGiveNonSpecificTagMatchesAutomaton", inPlace := ["internal/bytealg.IndexByte", "internal/bytealg.Index", "internal/bytealg.IndexByteString"], named := ["internal/bytealg.MaxLen"], make := .lifted ["publicsums"], apart := false }
def FnMayGiveNonSpecificTagMatchesAutomatonSaid : Prop := fnMayGiveNonSpecificTagMatchesAutomatonRow.holds Trym.pinned (OpenSpec.ofChange fnMayGiveNonSpecificTagMatchesAutomatonSpec)

/-- ITS FALSE NEIGHBOUR: 'it returns false'. Refute it at one input. -/
def fnMayGiveNonSpecificTagMatchesAutomatonWrong : ChangeSpec := { name := "fnMayGiveNonSpecificTagMatchesAutomaton", fn := fun _ => fun
  | [d] => { results := [.lit (.bool false)], args := [d] }
  | _ => none }
def FnMayGiveNonSpecificTagMatchesAutomatonWrongFalsely : Prop := fnMayGiveNonSpecificTagMatchesAutomatonRow.holds Trym.pinned (OpenSpec.ofChange fnMayGiveNonSpecificTagMatchesAutomatonWrong)

/-- 'zzlaws_internal_manifest_b1.FnMayGiveNonSpecificTagSplitsAtSeparator': WHATEVER THE INPUT: true; the input reads as it did. -/
def fnMayGiveNonSpecificTagSplitsAtSeparatorSpec : ChangeSpec := { name := "fnMayGiveNonSpecificTagSplitsAtSeparator", fn := fun _ => fun
  | [d1, d2, d3] => { results := [.lit (.bool true)], args := [d1, d2, d3] }
  | _ => none }
def fnMayGiveNonSpecificTagSplitsAtSeparatorRow : OpenClaim := { program := "qxb6601992amods", sum := "0b61b87a0a1eb7c0fe5e5d3f46bded57f06183244ce400d8b4413ad36c937a72", func := "example.com/latticework/latticework/zzlaws_internal_manifest_b1.FnMayGiveNonSpecificTagSplitsAtSeparator", spec := "fnMayGiveNonSpecificTagSplitsAtSeparator", inPlace := ["internal/bytealg.IndexByte", "internal/bytealg.Index", "internal/bytealg.IndexByteString"], named := ["internal/bytealg.MaxLen"], make := .lifted ["publicsums"], apart := false }
def FnMayGiveNonSpecificTagSplitsAtSeparatorSaid : Prop := fnMayGiveNonSpecificTagSplitsAtSeparatorRow.holds Trym.pinned (OpenSpec.ofChange fnMayGiveNonSpecificTagSplitsAtSeparatorSpec)

/-- ITS FALSE NEIGHBOUR: 'it returns false'. Refute it at one input. -/
def fnMayGiveNonSpecificTagSplitsAtSeparatorWrong : ChangeSpec := { name := "fnMayGiveNonSpecificTagSplitsAtSeparator", fn := fun _ => fun
  | [d1, d2, d3] => { results := [.lit (.bool false)], args := [d1, d2, d3] }
  | _ => none }
def FnMayGiveNonSpecificTagSplitsAtSeparatorWrongFalsely : Prop := fnMayGiveNonSpecificTagSplitsAtSeparatorRow.holds Trym.pinned (OpenSpec.ofChange fnMayGiveNonSpecificTagSplitsAtSeparatorWrong)

/-- 'zzlaws_internal_manifest_b1.FnATypeDistinctTypesDistinctPhrases': WHATEVER THE INPUT: true; the input reads as it did. -/
def fnATypeDistinctTypesDistinctPhrasesSpec : ChangeSpec := { name := "fnATypeDistinctTypesDistinctPhrases", fn := fun _ => fun
  | [d1, d2] => { results := [.lit (.bool true)], args := [d1, d2] }
  | _ => none }
def fnATypeDistinctTypesDistinctPhrasesRow : OpenClaim := { program := "qxb6601992amods", sum := "0b61b87a0a1eb7c0fe5e5d3f46bded57f06183244ce400d8b4413ad36c937a72", func := "example.com/latticework/latticework/zzlaws_internal_manifest_b1.FnATypeDistinctTypesDistinctPhrases", spec := "fnATypeDistinctTypesDistinctPhrases", make := .lifted ["publicsums"], apart := false }
def FnATypeDistinctTypesDistinctPhrasesSaid : Prop := fnATypeDistinctTypesDistinctPhrasesRow.holds Trym.pinned (OpenSpec.ofChange fnATypeDistinctTypesDistinctPhrasesSpec)

/-- ITS FALSE NEIGHBOUR: 'it returns false'. Refute it at one input. -/
def fnATypeDistinctTypesDistinctPhrasesWrong : ChangeSpec := { name := "fnATypeDistinctTypesDistinctPhrases", fn := fun _ => fun
  | [d1, d2] => { results := [.lit (.bool false)], args := [d1, d2] }
  | _ => none }
def FnATypeDistinctTypesDistinctPhrasesWrongFalsely : Prop := fnATypeDistinctTypesDistinctPhrasesRow.holds Trym.pinned (OpenSpec.ofChange fnATypeDistinctTypesDistinctPhrasesWrong)

end Rows
end Go.Proofs.Qxb6601992aMods
