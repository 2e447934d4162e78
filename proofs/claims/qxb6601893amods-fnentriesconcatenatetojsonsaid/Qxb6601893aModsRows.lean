/-
  No cell of these rows narrows 'for every input' (looked for: loops, veiled, ifaces, maps, wideKeys, modest, calm, conditions, laid).
  DERIVED. THE GIVEN ROWS OF THIS SEAT. 5 by the template 'for every input the law returns true; each argument reads behind the call as it read before'; 0 by the template 'total and deterministic' (their statements: Qxb6601893aModsTotals.lean).
  GIVEN WITH THE SEED: the statements are not yours to turn. If you find one false, say at which input.
  Laid BY PROGRAM, IN A SANDBOX (cutbox-rows.mjs): the forced cells as the released guide's own fill.sh prints them over the translation 9ded37f3c0c70e62… (all of the seat's roots in one cut). By AI agents, Wed Nov 11 2026. No macro, syntax, notation, axiom, sorry.
-/
import Derived.Test.Qxb6601893aModsChecked
import GoSem.Claim
import GoSem.ClaimJoined
import GoSem.ClaimMapViews
import Derived.JoinedTies
import Derived.KernelRfl
namespace Go.Proofs.Qxb6601893aMods
/- THE CELL 'sum', in the pinned program and in every row, IS THE sha256 OF THE DUMP (.gsa) THAT Qxb6601893aModsProg.lean LOADS. Nothing in Lean hashes anything: it is a label: what it is worth is what the hold of that sum in a sandbox is worth. -/
noncomputable def Trym.pinned : Pinned := { name := "qxb6601893amods", sum := "9ded37f3c0c70e62a5ce76be90649b9e1ead5252c36236f14e5a3494b6da5dcd", checked := Trym.checked }
namespace Rows
def none {H : Type} : Left H := { results := [], args := [] }

/-- 'zzlaws_api_b1.FnBoundsMatchesClampedProducts': WHATEVER THE INPUT: true; the input reads as it did. -/
def fnBoundsMatchesClampedProductsSpec : ChangeSpec := { name := "fnBoundsMatchesClampedProducts", fn := fun _ => fun
  | [d1, d2, d3, d4] => { results := [.lit (.bool true)], args := [d1, d2, d3, d4] }
  | _ => none }
def fnBoundsMatchesClampedProductsRow : OpenClaim := { program := "qxb6601893amods", sum := "9ded37f3c0c70e62a5ce76be90649b9e1ead5252c36236f14e5a3494b6da5dcd", func := "example.com/keys-to-projects/keys-to-projects/zzlaws_api_b1.FnBoundsMatchesClampedProducts", spec := "fnBoundsMatchesClampedProducts", make := .lifted ["publicsums"], apart := false }
def FnBoundsMatchesClampedProductsSaid : Prop := fnBoundsMatchesClampedProductsRow.holds Trym.pinned (OpenSpec.ofChange fnBoundsMatchesClampedProductsSpec)

/-- ITS FALSE NEIGHBOUR: 'it returns false'. Refute it at one input. -/
def fnBoundsMatchesClampedProductsWrong : ChangeSpec := { name := "fnBoundsMatchesClampedProducts", fn := fun _ => fun
  | [d1, d2, d3, d4] => { results := [.lit (.bool false)], args := [d1, d2, d3, d4] }
  | _ => none }
def FnBoundsMatchesClampedProductsWrongFalsely : Prop := fnBoundsMatchesClampedProductsRow.holds Trym.pinned (OpenSpec.ofChange fnBoundsMatchesClampedProductsWrong)

/-- 'zzlaws_api_b1.FnBoundsOrderedWithinTotal': WHATEVER THE INPUT: true; the input reads as it did. -/
def fnBoundsOrderedWithinTotalSpec : ChangeSpec := { name := "fnBoundsOrderedWithinTotal", fn := fun _ => fun
  | [d1, d2, d3, d4] => { results := [.lit (.bool true)], args := [d1, d2, d3, d4] }
  | _ => none }
def fnBoundsOrderedWithinTotalRow : OpenClaim := { program := "qxb6601893amods", sum := "9ded37f3c0c70e62a5ce76be90649b9e1ead5252c36236f14e5a3494b6da5dcd", func := "example.com/keys-to-projects/keys-to-projects/zzlaws_api_b1.FnBoundsOrderedWithinTotal", spec := "fnBoundsOrderedWithinTotal", make := .lifted ["publicsums"], apart := false }
def FnBoundsOrderedWithinTotalSaid : Prop := fnBoundsOrderedWithinTotalRow.holds Trym.pinned (OpenSpec.ofChange fnBoundsOrderedWithinTotalSpec)

/-- ITS FALSE NEIGHBOUR: 'it returns false'. Refute it at one input. -/
def fnBoundsOrderedWithinTotalWrong : ChangeSpec := { name := "fnBoundsOrderedWithinTotal", fn := fun _ => fun
  | [d1, d2, d3, d4] => { results := [.lit (.bool false)], args := [d1, d2, d3, d4] }
  | _ => none }
def FnBoundsOrderedWithinTotalWrongFalsely : Prop := fnBoundsOrderedWithinTotalRow.holds Trym.pinned (OpenSpec.ofChange fnBoundsOrderedWithinTotalWrong)

/-- 'zzlaws_api_b1.FnBoundsConsecutivePagesTile': WHATEVER THE INPUT: true; the input reads as it did. -/
def fnBoundsConsecutivePagesTileSpec : ChangeSpec := { name := "fnBoundsConsecutivePagesTile", fn := fun _ => fun
  | [d1, d2, d3, d4] => { results := [.lit (.bool true)], args := [d1, d2, d3, d4] }
  | _ => none }
def fnBoundsConsecutivePagesTileRow : OpenClaim := { program := "qxb6601893amods", sum := "9ded37f3c0c70e62a5ce76be90649b9e1ead5252c36236f14e5a3494b6da5dcd", func := "example.com/keys-to-projects/keys-to-projects/zzlaws_api_b1.FnBoundsConsecutivePagesTile", spec := "fnBoundsConsecutivePagesTile", make := .lifted ["publicsums"], apart := false }
def FnBoundsConsecutivePagesTileSaid : Prop := fnBoundsConsecutivePagesTileRow.holds Trym.pinned (OpenSpec.ofChange fnBoundsConsecutivePagesTileSpec)

/-- ITS FALSE NEIGHBOUR: 'it returns false'. Refute it at one input. -/
def fnBoundsConsecutivePagesTileWrong : ChangeSpec := { name := "fnBoundsConsecutivePagesTile", fn := fun _ => fun
  | [d1, d2, d3, d4] => { results := [.lit (.bool false)], args := [d1, d2, d3, d4] }
  | _ => none }
def FnBoundsConsecutivePagesTileWrongFalsely : Prop := fnBoundsConsecutivePagesTileRow.holds Trym.pinned (OpenSpec.ofChange fnBoundsConsecutivePagesTileWrong)

/-- 'zzlaws_api_b1.FnEntryMatchesOwnerScan': WHATEVER THE INPUT: true; the input reads as it did. -/
def fnEntryMatchesOwnerScanSpec : ChangeSpec := { name := "fnEntryMatchesOwnerScan", fn := fun _ => fun
  | [d1, d2, d3] => { results := [.lit (.bool true)], args := [d1, d2, d3] }
  | _ => none }
def fnEntryMatchesOwnerScanRow : OpenClaim := { program := "qxb6601893amods", sum := "9ded37f3c0c70e62a5ce76be90649b9e1ead5252c36236f14e5a3494b6da5dcd", func := "example.com/keys-to-projects/keys-to-projects/zzlaws_api_b1.FnEntryMatchesOwnerScan", spec := "fnEntryMatchesOwnerScan", make := .lifted ["publicsums"], apart := false }
def FnEntryMatchesOwnerScanSaid : Prop := fnEntryMatchesOwnerScanRow.holds Trym.pinned (OpenSpec.ofChange fnEntryMatchesOwnerScanSpec)

/-- ITS FALSE NEIGHBOUR: 'it returns false'. Refute it at one input. -/
def fnEntryMatchesOwnerScanWrong : ChangeSpec := { name := "fnEntryMatchesOwnerScan", fn := fun _ => fun
  | [d1, d2, d3] => { results := [.lit (.bool false)], args := [d1, d2, d3] }
  | _ => none }
def FnEntryMatchesOwnerScanWrongFalsely : Prop := fnEntryMatchesOwnerScanRow.holds Trym.pinned (OpenSpec.ofChange fnEntryMatchesOwnerScanWrong)

/-- 'zzlaws_api_b1.FnEntriesConcatenateToJSON': WHATEVER THE INPUT: true; the input reads as it did. -/
def fnEntriesConcatenateToJSONSpec : ChangeSpec := { name := "fnEntriesConcatenateToJSON", fn := fun _ => fun
  | [d1, d2] => { results := [.lit (.bool true)], args := [d1, d2] }
  | _ => none }
def fnEntriesConcatenateToJSONRow : OpenClaim := { program := "qxb6601893amods", sum := "9ded37f3c0c70e62a5ce76be90649b9e1ead5252c36236f14e5a3494b6da5dcd", func := "example.com/keys-to-projects/keys-to-projects/zzlaws_api_b1.FnEntriesConcatenateToJSON", spec := "fnEntriesConcatenateToJSON", make := .lifted ["publicsums"], apart := false }
def FnEntriesConcatenateToJSONSaid : Prop := fnEntriesConcatenateToJSONRow.holds Trym.pinned (OpenSpec.ofChange fnEntriesConcatenateToJSONSpec)

/-- ITS FALSE NEIGHBOUR: 'it returns false'. Refute it at one input. -/
def fnEntriesConcatenateToJSONWrong : ChangeSpec := { name := "fnEntriesConcatenateToJSON", fn := fun _ => fun
  | [d1, d2] => { results := [.lit (.bool false)], args := [d1, d2] }
  | _ => none }
def FnEntriesConcatenateToJSONWrongFalsely : Prop := fnEntriesConcatenateToJSONRow.holds Trym.pinned (OpenSpec.ofChange fnEntriesConcatenateToJSONWrong)

end Rows
end Go.Proofs.Qxb6601893aMods
