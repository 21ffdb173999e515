/-
  No cell of these rows narrows 'for every input' (looked for: loops, veiled, ifaces, maps, wideKeys, modest, calm, conditions, laid).
  DERIVED. THE GIVEN ROWS OF THIS SEAT. 6 by the template 'for every input the law returns true; each argument reads behind the call as it read before'; 0 by the template 'total and deterministic' (their statements: Qxb6602069aModsTotals.lean).
  GIVEN WITH THE SEED: the statements are not yours to turn. If you find one false, say at which input.
  Laid BY PROGRAM, IN A SANDBOX (cutbox-rows.mjs): the forced cells as the released guide's own fill.sh prints them over the translation 738003019b697cc7… (all of the seat's roots in one cut). By AI agents, Wed Nov 11 2026. No macro, syntax, notation, axiom, sorry.
-/
import Derived.Test.Qxb6602069aModsChecked
import GoSem.Claim
import GoSem.ClaimJoined
import GoSem.ClaimMapViews
import Derived.JoinedTies
import Derived.KernelRfl
namespace Go.Proofs.Qxb6602069aMods
/- THE CELL 'sum', in the pinned program and in every row, IS THE sha256 OF THE DUMP (.gsa) THAT Qxb6602069aModsProg.lean LOADS. Nothing in Lean hashes anything: it is a label: what it is worth is what the hold of that sum in a sandbox is worth. -/
noncomputable def Trym.pinned : Pinned := { name := "qxb6602069amods", sum := "738003019b697cc71bb93819b34d74038f9b7628d2375bdfa11e5506027f545f", checked := Trym.checked }
namespace Rows
def none {H : Type} : Left H := { results := [], args := [] }

/-- 'zzlaws_internal_books_b1.FnFirstDifferenceMatchesByteScan': WHATEVER THE INPUT: true; the input reads as it did. -/
def fnFirstDifferenceMatchesByteScanSpec : ChangeSpec := { name := "fnFirstDifferenceMatchesByteScan", fn := fun _ => fun
  | [d1, d2] => { results := [.lit (.bool true)], args := [d1, d2] }
  | _ => none }
def fnFirstDifferenceMatchesByteScanRow : OpenClaim := { program := "qxb6602069amods", sum := "738003019b697cc71bb93819b34d74038f9b7628d2375bdfa11e5506027f545f", func := "example.com/chartwright/chartwright/zzlaws_internal_books_b1.FnFirstDifferenceMatchesByteScan", spec := "fnFirstDifferenceMatchesByteScan", make := .lifted ["publicsums"], apart := false }
def FnFirstDifferenceMatchesByteScanSaid : Prop := fnFirstDifferenceMatchesByteScanRow.holds Trym.pinned (OpenSpec.ofChange fnFirstDifferenceMatchesByteScanSpec)

/-- ITS FALSE NEIGHBOUR: 'it returns false'. Refute it at one input. -/
def fnFirstDifferenceMatchesByteScanWrong : ChangeSpec := { name := "fnFirstDifferenceMatchesByteScan", fn := fun _ => fun
  | [d1, d2] => { results := [.lit (.bool false)], args := [d1, d2] }
  | _ => none }
def FnFirstDifferenceMatchesByteScanWrongFalsely : Prop := fnFirstDifferenceMatchesByteScanRow.holds Trym.pinned (OpenSpec.ofChange fnFirstDifferenceMatchesByteScanWrong)

/-- 'zzlaws_internal_books_b1.FnFirstDifferenceSymmetricReflexive': WHATEVER THE INPUT: true; the input reads as it did. -/
def fnFirstDifferenceSymmetricReflexiveSpec : ChangeSpec := { name := "fnFirstDifferenceSymmetricReflexive", fn := fun _ => fun
  | [d1, d2] => { results := [.lit (.bool true)], args := [d1, d2] }
  | _ => none }
def fnFirstDifferenceSymmetricReflexiveRow : OpenClaim := { program := "qxb6602069amods", sum := "738003019b697cc71bb93819b34d74038f9b7628d2375bdfa11e5506027f545f", func := "example.com/chartwright/chartwright/zzlaws_internal_books_b1.FnFirstDifferenceSymmetricReflexive", spec := "fnFirstDifferenceSymmetricReflexive", make := .lifted ["publicsums"], apart := false }
def FnFirstDifferenceSymmetricReflexiveSaid : Prop := fnFirstDifferenceSymmetricReflexiveRow.holds Trym.pinned (OpenSpec.ofChange fnFirstDifferenceSymmetricReflexiveSpec)

/-- ITS FALSE NEIGHBOUR: 'it returns false'. Refute it at one input. -/
def fnFirstDifferenceSymmetricReflexiveWrong : ChangeSpec := { name := "fnFirstDifferenceSymmetricReflexive", fn := fun _ => fun
  | [d1, d2] => { results := [.lit (.bool false)], args := [d1, d2] }
  | _ => none }
def FnFirstDifferenceSymmetricReflexiveWrongFalsely : Prop := fnFirstDifferenceSymmetricReflexiveRow.holds Trym.pinned (OpenSpec.ofChange fnFirstDifferenceSymmetricReflexiveWrong)

/-- 'zzlaws_internal_books_b1.FnFirstDifferenceShiftsByCommonPrefix': WHATEVER THE INPUT: true; the input reads as it did. -/
def fnFirstDifferenceShiftsByCommonPrefixSpec : ChangeSpec := { name := "fnFirstDifferenceShiftsByCommonPrefix", fn := fun _ => fun
  | [d1, d2, d3] => { results := [.lit (.bool true)], args := [d1, d2, d3] }
  | _ => none }
def fnFirstDifferenceShiftsByCommonPrefixRow : OpenClaim := { program := "qxb6602069amods", sum := "738003019b697cc71bb93819b34d74038f9b7628d2375bdfa11e5506027f545f", func := "example.com/chartwright/chartwright/zzlaws_internal_books_b1.FnFirstDifferenceShiftsByCommonPrefix", spec := "fnFirstDifferenceShiftsByCommonPrefix", make := .lifted ["publicsums"], apart := false }
def FnFirstDifferenceShiftsByCommonPrefixSaid : Prop := fnFirstDifferenceShiftsByCommonPrefixRow.holds Trym.pinned (OpenSpec.ofChange fnFirstDifferenceShiftsByCommonPrefixSpec)

/-- ITS FALSE NEIGHBOUR: 'it returns false'. Refute it at one input. -/
def fnFirstDifferenceShiftsByCommonPrefixWrong : ChangeSpec := { name := "fnFirstDifferenceShiftsByCommonPrefix", fn := fun _ => fun
  | [d1, d2, d3] => { results := [.lit (.bool false)], args := [d1, d2, d3] }
  | _ => none }
def FnFirstDifferenceShiftsByCommonPrefixWrongFalsely : Prop := fnFirstDifferenceShiftsByCommonPrefixRow.holds Trym.pinned (OpenSpec.ofChange fnFirstDifferenceShiftsByCommonPrefixWrong)

/-- 'zzlaws_internal_books_b1.FnDayOfMatchesFieldModel': WHATEVER THE INPUT: true; the input reads as it did. -/
def fnDayOfMatchesFieldModelSpec : ChangeSpec := { name := "fnDayOfMatchesFieldModel", fn := fun _ => fun
  | [d] => { results := [.lit (.bool true)], args := [d] }
  | _ => none }
def fnDayOfMatchesFieldModelRow : OpenClaim := { program := "qxb6602069amods", sum := "738003019b697cc71bb93819b34d74038f9b7628d2375bdfa11e5506027f545f", func := "example.com/chartwright/chartwright/zzlaws_internal_books_b1.FnDayOfMatchesFieldModel", spec := "fnDayOfMatchesFieldModel", make := .lifted ["publicsums"], apart := false }
def FnDayOfMatchesFieldModelSaid : Prop := fnDayOfMatchesFieldModelRow.holds Trym.pinned (OpenSpec.ofChange fnDayOfMatchesFieldModelSpec)

/-- ITS FALSE NEIGHBOUR: 'it returns false'. Refute it at one input. -/
def fnDayOfMatchesFieldModelWrong : ChangeSpec := { name := "fnDayOfMatchesFieldModel", fn := fun _ => fun
  | [d] => { results := [.lit (.bool false)], args := [d] }
  | _ => none }
def FnDayOfMatchesFieldModelWrongFalsely : Prop := fnDayOfMatchesFieldModelRow.holds Trym.pinned (OpenSpec.ofChange fnDayOfMatchesFieldModelWrong)

/-- 'zzlaws_internal_books_b1.FnDayOfOrdersAsText': WHATEVER THE INPUT: true; the input reads as it did. -/
def fnDayOfOrdersAsTextSpec : ChangeSpec := { name := "fnDayOfOrdersAsText", fn := fun _ => fun
  | [d1, d2] => { results := [.lit (.bool true)], args := [d1, d2] }
  | _ => none }
def fnDayOfOrdersAsTextRow : OpenClaim := { program := "qxb6602069amods", sum := "738003019b697cc71bb93819b34d74038f9b7628d2375bdfa11e5506027f545f", func := "example.com/chartwright/chartwright/zzlaws_internal_books_b1.FnDayOfOrdersAsText", spec := "fnDayOfOrdersAsText", make := .lifted ["publicsums"], apart := false }
def FnDayOfOrdersAsTextSaid : Prop := fnDayOfOrdersAsTextRow.holds Trym.pinned (OpenSpec.ofChange fnDayOfOrdersAsTextSpec)

/-- ITS FALSE NEIGHBOUR: 'it returns false'. Refute it at one input. -/
def fnDayOfOrdersAsTextWrong : ChangeSpec := { name := "fnDayOfOrdersAsText", fn := fun _ => fun
  | [d1, d2] => { results := [.lit (.bool false)], args := [d1, d2] }
  | _ => none }
def FnDayOfOrdersAsTextWrongFalsely : Prop := fnDayOfOrdersAsTextRow.holds Trym.pinned (OpenSpec.ofChange fnDayOfOrdersAsTextWrong)

/-- 'zzlaws_internal_books_b1.FnDayOfInvertsFormatting': WHATEVER THE INPUT: true; the input reads as it did. -/
def fnDayOfInvertsFormattingSpec : ChangeSpec := { name := "fnDayOfInvertsFormatting", fn := fun _ => fun
  | [d] => { results := [.lit (.bool true)], args := [d] }
  | _ => none }
def fnDayOfInvertsFormattingRow : OpenClaim := { program := "qxb6602069amods", sum := "738003019b697cc71bb93819b34d74038f9b7628d2375bdfa11e5506027f545f", func := "example.com/chartwright/chartwright/zzlaws_internal_books_b1.FnDayOfInvertsFormatting", spec := "fnDayOfInvertsFormatting", make := .lifted ["publicsums"], apart := false }
def FnDayOfInvertsFormattingSaid : Prop := fnDayOfInvertsFormattingRow.holds Trym.pinned (OpenSpec.ofChange fnDayOfInvertsFormattingSpec)

/-- ITS FALSE NEIGHBOUR: 'it returns false'. Refute it at one input. -/
def fnDayOfInvertsFormattingWrong : ChangeSpec := { name := "fnDayOfInvertsFormatting", fn := fun _ => fun
  | [d] => { results := [.lit (.bool false)], args := [d] }
  | _ => none }
def FnDayOfInvertsFormattingWrongFalsely : Prop := fnDayOfInvertsFormattingRow.holds Trym.pinned (OpenSpec.ofChange fnDayOfInvertsFormattingWrong)

end Rows
end Go.Proofs.Qxb6602069aMods
