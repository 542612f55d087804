/-
  No cell of these rows narrows 'for every input' (looked for: loops, veiled, ifaces, maps, wideKeys, modest, calm, conditions, laid).
  DERIVED. THE GIVEN ROWS OF THIS SEAT. 3 by the template 'for every input the law returns true; each argument reads behind the call as it read before'; 0 by the template 'total and deterministic' (their statements: Qxb6614816aTotals.lean).
  GIVEN WITH THE SEED: the statements are not yours to turn. If you find one false, say at which input.
  Laid BY PROGRAM, IN A SANDBOX (cutbox-rows.mjs): the forced cells as the released guide's own fill.sh prints them over the translation 5169bef16a5e7981… (all of the seat's roots in one cut). By AI agents, Wed Nov 11 2026. No macro, syntax, notation, axiom, sorry.
-/
import Derived.Test.Qxb6614816aChecked
import GoSem.Claim
import GoSem.ClaimJoined
import GoSem.ClaimMapViews
import Derived.JoinedTies
import Derived.KernelRfl
namespace Go.Proofs.Qxb6614816a
/- THE CELL 'sum', in the pinned program and in every row, IS THE sha256 OF THE DUMP (.gsa) THAT Qxb6614816aProg.lean LOADS. Nothing in Lean hashes anything: it is a label: what it is worth is what the hold of that sum in a sandbox is worth. -/
noncomputable def Try.pinned : Pinned := { name := "qxb6614816a", sum := "5169bef16a5e798171ab0136880ad41d8b3e77b00dca57cba7de8771da4c7a92", checked := Try.checked }
namespace Rows
def none {H : Type} : Left H := { results := [], args := [] }

/-- 'zzlaws_internal_data_b1.FnDigitLetterSistersEnumerated': WHATEVER THE INPUT: true; the input reads as it did. -/
def fnDigitLetterSistersEnumeratedSpec : ChangeSpec := { name := "fnDigitLetterSistersEnumerated", fn := fun _ => fun
  | [d] => { results := [.lit (.bool true)], args := [d] }
  | _ => none }
def fnDigitLetterSistersEnumeratedRow : OpenClaim := { program := "qxb6614816a", sum := "5169bef16a5e798171ab0136880ad41d8b3e77b00dca57cba7de8771da4c7a92", func := "example.com/stipule/zzlaws_internal_data_b1.FnDigitLetterSistersEnumerated", spec := "fnDigitLetterSistersEnumerated", apart := false }
def FnDigitLetterSistersEnumeratedSaid : Prop := fnDigitLetterSistersEnumeratedRow.holds Try.pinned (OpenSpec.ofChange fnDigitLetterSistersEnumeratedSpec)

/-- ITS FALSE NEIGHBOUR: 'it returns false'. Refute it at one input. -/
def fnDigitLetterSistersEnumeratedWrong : ChangeSpec := { name := "fnDigitLetterSistersEnumerated", fn := fun _ => fun
  | [d] => { results := [.lit (.bool false)], args := [d] }
  | _ => none }
def FnDigitLetterSistersEnumeratedWrongFalsely : Prop := fnDigitLetterSistersEnumeratedRow.holds Try.pinned (OpenSpec.ofChange fnDigitLetterSistersEnumeratedWrong)

/-- 'zzlaws_internal_data_b1.FnEntryRepeatedOnOneLevel': WHATEVER THE INPUT: true; the input reads as it did. -/
def fnEntryRepeatedOnOneLevelSpec : ChangeSpec := { name := "fnEntryRepeatedOnOneLevel", fn := fun _ => fun
  | [d1, d2, d3, d4, d5, d6] => { results := [.lit (.bool true)], args := [d1, d2, d3, d4, d5, d6] }
  | _ => none }
def fnEntryRepeatedOnOneLevelRow : OpenClaim := { program := "qxb6614816a", sum := "5169bef16a5e798171ab0136880ad41d8b3e77b00dca57cba7de8771da4c7a92", func := "example.com/stipule/zzlaws_internal_data_b1.FnEntryRepeatedOnOneLevel", spec := "fnEntryRepeatedOnOneLevel", unfollowed := true, recurses := true, apart := false }
def FnEntryRepeatedOnOneLevelSaid : Prop := fnEntryRepeatedOnOneLevelRow.holds Try.pinned (OpenSpec.ofChange fnEntryRepeatedOnOneLevelSpec)

/-- ITS FALSE NEIGHBOUR: 'it returns false'. Refute it at one input. -/
def fnEntryRepeatedOnOneLevelWrong : ChangeSpec := { name := "fnEntryRepeatedOnOneLevel", fn := fun _ => fun
  | [d1, d2, d3, d4, d5, d6] => { results := [.lit (.bool false)], args := [d1, d2, d3, d4, d5, d6] }
  | _ => none }
def FnEntryRepeatedOnOneLevelWrongFalsely : Prop := fnEntryRepeatedOnOneLevelRow.holds Try.pinned (OpenSpec.ofChange fnEntryRepeatedOnOneLevelWrong)

/-- 'zzlaws_internal_data_b1.FnYAMLListOfNumbersLines': WHATEVER THE INPUT: true; the input reads as it did. -/
def fnYAMLListOfNumbersLinesSpec : ChangeSpec := { name := "fnYAMLListOfNumbersLines", fn := fun _ => fun
  | [d1, d2, d3, d4, d5] => { results := [.lit (.bool true)], args := [d1, d2, d3, d4, d5] }
  | _ => none }
def fnYAMLListOfNumbersLinesRow : OpenClaim := { program := "qxb6614816a", sum := "5169bef16a5e798171ab0136880ad41d8b3e77b00dca57cba7de8771da4c7a92", func := "example.com/stipule/zzlaws_internal_data_b1.FnYAMLListOfNumbersLines", spec := "fnYAMLListOfNumbersLines", unfollowed := true, recurses := true, apart := false }
def FnYAMLListOfNumbersLinesSaid : Prop := fnYAMLListOfNumbersLinesRow.holds Try.pinned (OpenSpec.ofChange fnYAMLListOfNumbersLinesSpec)

/-- ITS FALSE NEIGHBOUR: 'it returns false'. Refute it at one input. -/
def fnYAMLListOfNumbersLinesWrong : ChangeSpec := { name := "fnYAMLListOfNumbersLines", fn := fun _ => fun
  | [d1, d2, d3, d4, d5] => { results := [.lit (.bool false)], args := [d1, d2, d3, d4, d5] }
  | _ => none }
def FnYAMLListOfNumbersLinesWrongFalsely : Prop := fnYAMLListOfNumbersLinesRow.holds Try.pinned (OpenSpec.ofChange fnYAMLListOfNumbersLinesWrong)

end Rows
end Go.Proofs.Qxb6614816a
