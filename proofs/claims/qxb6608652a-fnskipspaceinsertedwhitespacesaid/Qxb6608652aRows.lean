/-
  No cell of these rows narrows 'for every input' (looked for: loops, veiled, ifaces, maps, wideKeys, modest, calm, conditions, laid).
  DERIVED. THE GIVEN ROWS OF THIS SEAT. 4 by the template 'for every input the law returns true; each argument reads behind the call as it read before'; 0 by the template 'total and deterministic' (their statements: Qxb6608652aTotals.lean).
  GIVEN WITH THE SEED: the statements are not yours to turn. If you find one false, say at which input.
  Laid BY PROGRAM, IN A SANDBOX (cutbox-rows.mjs): the forced cells as the released guide's own fill.sh prints them over the translation 9d8505d44fbc2cb2… (all of the seat's roots in one cut). By AI agents, Wed Nov 11 2026. No macro, syntax, notation, axiom, sorry.
-/
import Derived.Test.Qxb6608652aChecked
import GoSem.Claim
import GoSem.ClaimJoined
import GoSem.ClaimMapViews
import Derived.JoinedTies
import Derived.KernelRfl
namespace Go.Proofs.Qxb6608652a
/- THE CELL 'sum', in the pinned program and in every row, IS THE sha256 OF THE DUMP (.gsa) THAT Qxb6608652aProg.lean LOADS. Nothing in Lean hashes anything: it is a label: what it is worth is what the hold of that sum in a sandbox is worth. -/
noncomputable def Try.pinned : Pinned := { name := "qxb6608652a", sum := "9d8505d44fbc2cb296625bb0afe6b5ee3120878cfd30289715ba7da9ba3beba6", checked := Try.checked }
namespace Rows
def none {H : Type} : Left H := { results := [], args := [] }

/-- 'zzlaws_internal_jsonobject_b1.FnSkipSpaceCutAnywhere': WHATEVER THE INPUT: true; the input reads as it did. -/
def fnSkipSpaceCutAnywhereSpec : ChangeSpec := { name := "fnSkipSpaceCutAnywhere", fn := fun _ => fun
  | [d1, d2, d3] => { results := [.lit (.bool true)], args := [d1, d2, d3] }
  | _ => none }
def fnSkipSpaceCutAnywhereRow : OpenClaim := { program := "qxb6608652a", sum := "9d8505d44fbc2cb296625bb0afe6b5ee3120878cfd30289715ba7da9ba3beba6", func := "example.com/vestibule/vestibule/zzlaws_internal_jsonobject_b1.FnSkipSpaceCutAnywhere", spec := "fnSkipSpaceCutAnywhere", apart := false }
def FnSkipSpaceCutAnywhereSaid : Prop := fnSkipSpaceCutAnywhereRow.holds Try.pinned (OpenSpec.ofChange fnSkipSpaceCutAnywhereSpec)

/-- ITS FALSE NEIGHBOUR: 'it returns false'. Refute it at one input. -/
def fnSkipSpaceCutAnywhereWrong : ChangeSpec := { name := "fnSkipSpaceCutAnywhere", fn := fun _ => fun
  | [d1, d2, d3] => { results := [.lit (.bool false)], args := [d1, d2, d3] }
  | _ => none }
def FnSkipSpaceCutAnywhereWrongFalsely : Prop := fnSkipSpaceCutAnywhereRow.holds Try.pinned (OpenSpec.ofChange fnSkipSpaceCutAnywhereWrong)

/-- 'zzlaws_internal_jsonobject_b1.FnSkipSpaceInsertedWhiteSpace': WHATEVER THE INPUT: true; the input reads as it did. -/
def fnSkipSpaceInsertedWhiteSpaceSpec : ChangeSpec := { name := "fnSkipSpaceInsertedWhiteSpace", fn := fun _ => fun
  | [d1, d2, d3, d4] => { results := [.lit (.bool true)], args := [d1, d2, d3, d4] }
  | _ => none }
def fnSkipSpaceInsertedWhiteSpaceRow : OpenClaim := { program := "qxb6608652a", sum := "9d8505d44fbc2cb296625bb0afe6b5ee3120878cfd30289715ba7da9ba3beba6", func := "example.com/vestibule/vestibule/zzlaws_internal_jsonobject_b1.FnSkipSpaceInsertedWhiteSpace", spec := "fnSkipSpaceInsertedWhiteSpace", apart := false }
def FnSkipSpaceInsertedWhiteSpaceSaid : Prop := fnSkipSpaceInsertedWhiteSpaceRow.holds Try.pinned (OpenSpec.ofChange fnSkipSpaceInsertedWhiteSpaceSpec)

/-- ITS FALSE NEIGHBOUR: 'it returns false'. Refute it at one input. -/
def fnSkipSpaceInsertedWhiteSpaceWrong : ChangeSpec := { name := "fnSkipSpaceInsertedWhiteSpace", fn := fun _ => fun
  | [d1, d2, d3, d4] => { results := [.lit (.bool false)], args := [d1, d2, d3, d4] }
  | _ => none }
def FnSkipSpaceInsertedWhiteSpaceWrongFalsely : Prop := fnSkipSpaceInsertedWhiteSpaceRow.holds Try.pinned (OpenSpec.ofChange fnSkipSpaceInsertedWhiteSpaceWrong)

/-- 'zzlaws_internal_jsonobject_b1.FnLowSurrogateAtSpelledUnitIgnoresCaseAndTail': WHATEVER THE INPUT: true; the input reads as it did. -/
def fnLowSurrogateAtSpelledUnitIgnoresCaseAndTailSpec : ChangeSpec := { name := "fnLowSurrogateAtSpelledUnitIgnoresCaseAndTail", fn := fun _ => fun
  | [d1, d2] => { results := [.lit (.bool true)], args := [d1, d2] }
  | _ => none }
def fnLowSurrogateAtSpelledUnitIgnoresCaseAndTailRow : OpenClaim := { program := "qxb6608652a", sum := "9d8505d44fbc2cb296625bb0afe6b5ee3120878cfd30289715ba7da9ba3beba6", func := "example.com/vestibule/vestibule/zzlaws_internal_jsonobject_b1.FnLowSurrogateAtSpelledUnitIgnoresCaseAndTail", spec := "fnLowSurrogateAtSpelledUnitIgnoresCaseAndTail", apart := false }
def FnLowSurrogateAtSpelledUnitIgnoresCaseAndTailSaid : Prop := fnLowSurrogateAtSpelledUnitIgnoresCaseAndTailRow.holds Try.pinned (OpenSpec.ofChange fnLowSurrogateAtSpelledUnitIgnoresCaseAndTailSpec)

/-- ITS FALSE NEIGHBOUR: 'it returns false'. Refute it at one input. -/
def fnLowSurrogateAtSpelledUnitIgnoresCaseAndTailWrong : ChangeSpec := { name := "fnLowSurrogateAtSpelledUnitIgnoresCaseAndTail", fn := fun _ => fun
  | [d1, d2] => { results := [.lit (.bool false)], args := [d1, d2] }
  | _ => none }
def FnLowSurrogateAtSpelledUnitIgnoresCaseAndTailWrongFalsely : Prop := fnLowSurrogateAtSpelledUnitIgnoresCaseAndTailRow.holds Try.pinned (OpenSpec.ofChange fnLowSurrogateAtSpelledUnitIgnoresCaseAndTailWrong)

/-- 'zzlaws_internal_jsonobject_b1.FnLowSurrogateAtDigitPlace': WHATEVER THE INPUT: true; the input reads as it did. -/
def fnLowSurrogateAtDigitPlaceSpec : ChangeSpec := { name := "fnLowSurrogateAtDigitPlace", fn := fun _ => fun
  | [d1, d2, d3] => { results := [.lit (.bool true)], args := [d1, d2, d3] }
  | _ => none }
def fnLowSurrogateAtDigitPlaceRow : OpenClaim := { program := "qxb6608652a", sum := "9d8505d44fbc2cb296625bb0afe6b5ee3120878cfd30289715ba7da9ba3beba6", func := "example.com/vestibule/vestibule/zzlaws_internal_jsonobject_b1.FnLowSurrogateAtDigitPlace", spec := "fnLowSurrogateAtDigitPlace", apart := false }
def FnLowSurrogateAtDigitPlaceSaid : Prop := fnLowSurrogateAtDigitPlaceRow.holds Try.pinned (OpenSpec.ofChange fnLowSurrogateAtDigitPlaceSpec)

/-- ITS FALSE NEIGHBOUR: 'it returns false'. Refute it at one input. -/
def fnLowSurrogateAtDigitPlaceWrong : ChangeSpec := { name := "fnLowSurrogateAtDigitPlace", fn := fun _ => fun
  | [d1, d2, d3] => { results := [.lit (.bool false)], args := [d1, d2, d3] }
  | _ => none }
def FnLowSurrogateAtDigitPlaceWrongFalsely : Prop := fnLowSurrogateAtDigitPlaceRow.holds Try.pinned (OpenSpec.ofChange fnLowSurrogateAtDigitPlaceWrong)

end Rows
end Go.Proofs.Qxb6608652a
