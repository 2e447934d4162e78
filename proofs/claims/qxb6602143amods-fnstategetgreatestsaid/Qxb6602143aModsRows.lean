/-
  No cell of these rows narrows 'for every input' (looked for: loops, veiled, ifaces, maps, wideKeys, modest, calm, conditions, laid).
  DERIVED. THE GIVEN ROWS OF THIS SEAT. 5 by the template 'for every input the law returns true; each argument reads behind the call as it read before'; 0 by the template 'total and deterministic' (their statements: Qxb6602143aModsTotals.lean).
  GIVEN WITH THE SEED: the statements are not yours to turn. If you find one false, say at which input.
  Laid BY PROGRAM, IN A SANDBOX (cutbox-rows.mjs): the forced cells as the released guide's own fill.sh prints them over the translation 96c86773a02746dc… (all of the seat's roots in one cut). By AI agents, Wed Nov 11 2026. No macro, syntax, notation, axiom, sorry.
-/
import Derived.Test.Qxb6602143aModsChecked
import GoSem.Claim
import GoSem.ClaimJoined
import GoSem.ClaimMapViews
import Derived.JoinedTies
import Derived.KernelRfl
namespace Go.Proofs.Qxb6602143aMods
/- THE CELL 'sum', in the pinned program and in every row, IS THE sha256 OF THE DUMP (.gsa) THAT Qxb6602143aModsProg.lean LOADS. Nothing in Lean hashes anything: it is a label: what it is worth is what the hold of that sum in a sandbox is worth. -/
noncomputable def Trym.pinned : Pinned := { name := "qxb6602143amods", sum := "96c86773a02746dc872e1fec36c13aeb5dd3439873bae80f6f9a8ccb400524ac", checked := Trym.checked }
namespace Rows
def none {H : Type} : Left H := { results := [], args := [] }

/-- 'zzlaws_root_b1.FnCutLineSpec': WHATEVER THE INPUT: true; the input reads as it did. -/
def fnCutLineSpecSpec : ChangeSpec := { name := "fnCutLineSpec", fn := fun _ => fun
  | [d] => { results := [.lit (.bool true)], args := [d] }
  | _ => none }
def fnCutLineSpecRow : OpenClaim := { program := "qxb6602143amods", sum := "96c86773a02746dc872e1fec36c13aeb5dd3439873bae80f6f9a8ccb400524ac", func := "example.com/mergewell/mergewell/zzlaws_root_b1.FnCutLineSpec", spec := "fnCutLineSpec", inPlace := ["internal/bytealg.IndexByte"], make := .lifted ["publicsums"], apart := false }
def FnCutLineSpecSaid : Prop := fnCutLineSpecRow.holds Trym.pinned (OpenSpec.ofChange fnCutLineSpecSpec)

/-- ITS FALSE NEIGHBOUR: 'it returns false'. Refute it at one input. -/
def fnCutLineSpecWrong : ChangeSpec := { name := "fnCutLineSpec", fn := fun _ => fun
  | [d] => { results := [.lit (.bool false)], args := [d] }
  | _ => none }
def FnCutLineSpecWrongFalsely : Prop := fnCutLineSpecRow.holds Trym.pinned (OpenSpec.ofChange fnCutLineSpecWrong)

/-- 'zzlaws_root_b1.FnCutLineRoundTrip': WHATEVER THE INPUT: true; the input reads as it did. -/
def fnCutLineRoundTripSpec : ChangeSpec := { name := "fnCutLineRoundTrip", fn := fun _ => fun
  | [d1, d2] => { results := [.lit (.bool true)], args := [d1, d2] }
  | _ => none }
def fnCutLineRoundTripRow : OpenClaim := { program := "qxb6602143amods", sum := "96c86773a02746dc872e1fec36c13aeb5dd3439873bae80f6f9a8ccb400524ac", func := "example.com/mergewell/mergewell/zzlaws_root_b1.FnCutLineRoundTrip", spec := "fnCutLineRoundTrip", inPlace := ["internal/bytealg.IndexByte"], make := .lifted ["publicsums"], apart := false }
def FnCutLineRoundTripSaid : Prop := fnCutLineRoundTripRow.holds Trym.pinned (OpenSpec.ofChange fnCutLineRoundTripSpec)

/-- ITS FALSE NEIGHBOUR: 'it returns false'. Refute it at one input. -/
def fnCutLineRoundTripWrong : ChangeSpec := { name := "fnCutLineRoundTrip", fn := fun _ => fun
  | [d1, d2] => { results := [.lit (.bool false)], args := [d1, d2] }
  | _ => none }
def FnCutLineRoundTripWrongFalsely : Prop := fnCutLineRoundTripRow.holds Trym.pinned (OpenSpec.ofChange fnCutLineRoundTripWrong)

/-- 'zzlaws_root_b1.FnCutWriterSuffixSpec': WHATEVER THE INPUT: true; the input reads as it did. -/
def fnCutWriterSuffixSpecSpec : ChangeSpec := { name := "fnCutWriterSuffixSpec", fn := fun _ => fun
  | [d] => { results := [.lit (.bool true)], args := [d] }
  | _ => none }
def fnCutWriterSuffixSpecRow : OpenClaim := { program := "qxb6602143amods", sum := "96c86773a02746dc872e1fec36c13aeb5dd3439873bae80f6f9a8ccb400524ac", func := "example.com/mergewell/mergewell/zzlaws_root_b1.FnCutWriterSuffixSpec", spec := "fnCutWriterSuffixSpec", make := .lifted ["publicsums"], apart := false }
def FnCutWriterSuffixSpecSaid : Prop := fnCutWriterSuffixSpecRow.holds Trym.pinned (OpenSpec.ofChange fnCutWriterSuffixSpecSpec)

/-- ITS FALSE NEIGHBOUR: 'it returns false'. Refute it at one input. -/
def fnCutWriterSuffixSpecWrong : ChangeSpec := { name := "fnCutWriterSuffixSpec", fn := fun _ => fun
  | [d] => { results := [.lit (.bool false)], args := [d] }
  | _ => none }
def FnCutWriterSuffixSpecWrongFalsely : Prop := fnCutWriterSuffixSpecRow.holds Trym.pinned (OpenSpec.ofChange fnCutWriterSuffixSpecWrong)

/-- 'zzlaws_root_b1.FnCutWriterSuffixInverse': WHATEVER THE INPUT: true; the input reads as it did. -/
def fnCutWriterSuffixInverseSpec : ChangeSpec := { name := "fnCutWriterSuffixInverse", fn := fun _ => fun
  | [d1, d2] => { results := [.lit (.bool true)], args := [d1, d2] }
  | _ => none }
def fnCutWriterSuffixInverseRow : OpenClaim := { program := "qxb6602143amods", sum := "96c86773a02746dc872e1fec36c13aeb5dd3439873bae80f6f9a8ccb400524ac", func := "example.com/mergewell/mergewell/zzlaws_root_b1.FnCutWriterSuffixInverse", spec := "fnCutWriterSuffixInverse", make := .lifted ["publicsums"], apart := false }
def FnCutWriterSuffixInverseSaid : Prop := fnCutWriterSuffixInverseRow.holds Trym.pinned (OpenSpec.ofChange fnCutWriterSuffixInverseSpec)

/-- ITS FALSE NEIGHBOUR: 'it returns false'. Refute it at one input. -/
def fnCutWriterSuffixInverseWrong : ChangeSpec := { name := "fnCutWriterSuffixInverse", fn := fun _ => fun
  | [d1, d2] => { results := [.lit (.bool false)], args := [d1, d2] }
  | _ => none }
def FnCutWriterSuffixInverseWrongFalsely : Prop := fnCutWriterSuffixInverseRow.holds Trym.pinned (OpenSpec.ofChange fnCutWriterSuffixInverseWrong)

/-- 'zzlaws_root_b1.FnStateGetGreatest': WHATEVER THE INPUT: true; the input reads as it did. -/
def fnStateGetGreatestSpec : ChangeSpec := { name := "fnStateGetGreatest", fn := fun _ => fun
  | [d1, d2, d3] => { results := [.lit (.bool true)], args := [d1, d2, d3] }
  | _ => none }
def fnStateGetGreatestRow : OpenClaim := { program := "qxb6602143amods", sum := "96c86773a02746dc872e1fec36c13aeb5dd3439873bae80f6f9a8ccb400524ac", func := "example.com/mergewell/mergewell/zzlaws_root_b1.FnStateGetGreatest", spec := "fnStateGetGreatest", make := .lifted ["publicsums"], apart := false }
def FnStateGetGreatestSaid : Prop := fnStateGetGreatestRow.holds Trym.pinned (OpenSpec.ofChange fnStateGetGreatestSpec)

/-- ITS FALSE NEIGHBOUR: 'it returns false'. Refute it at one input. -/
def fnStateGetGreatestWrong : ChangeSpec := { name := "fnStateGetGreatest", fn := fun _ => fun
  | [d1, d2, d3] => { results := [.lit (.bool false)], args := [d1, d2, d3] }
  | _ => none }
def FnStateGetGreatestWrongFalsely : Prop := fnStateGetGreatestRow.holds Trym.pinned (OpenSpec.ofChange fnStateGetGreatestWrong)

end Rows
end Go.Proofs.Qxb6602143aMods
