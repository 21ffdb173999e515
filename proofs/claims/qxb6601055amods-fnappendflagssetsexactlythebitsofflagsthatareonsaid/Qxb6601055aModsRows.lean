/-
  No cell of these rows narrows 'for every input' (looked for: loops, veiled, ifaces, maps, wideKeys, modest, calm, conditions, laid).
  DERIVED. THE GIVEN ROWS OF THIS SEAT. 5 by the template 'for every input the law returns true; each argument reads behind the call as it read before'; 0 by the template 'total and deterministic' (their statements: Qxb6601055aModsTotals.lean).
  GIVEN WITH THE SEED: the statements are not yours to turn. If you find one false, say at which input.
  Laid BY PROGRAM, IN A SANDBOX (cutbox-rows.mjs): the forced cells as the released guide's own fill.sh prints them over the translation 7359bd61a8d72cf8… (all of the seat's roots in one cut). By AI agents, Wed Nov 11 2026. No macro, syntax, notation, axiom, sorry.
-/
import Derived.Test.Qxb6601055aModsChecked
import GoSem.Claim
import GoSem.ClaimJoined
import GoSem.ClaimMapViews
import Derived.JoinedTies
import Derived.KernelRfl
namespace Go.Proofs.Qxb6601055aMods
/- THE CELL 'sum', in the pinned program and in every row, IS THE sha256 OF THE DUMP (.gsa) THAT Qxb6601055aModsProg.lean LOADS. Nothing in Lean hashes anything: it is a label: what it is worth is what the hold of that sum in a sandbox is worth. -/
noncomputable def Trym.pinned : Pinned := { name := "qxb6601055amods", sum := "7359bd61a8d72cf8518fcf927a998bc80ebed20dd8742598284b12306c99b1f7", checked := Trym.checked }
namespace Rows
def none {H : Type} : Left H := { results := [], args := [] }

/-- 'zzlaws_root_b1.FnOrderKeyBeforeIsBigEndianByteOrder': WHATEVER THE INPUT: true; the input reads as it did. -/
def fnOrderKeyBeforeIsBigEndianByteOrderSpec : ChangeSpec := { name := "fnOrderKeyBeforeIsBigEndianByteOrder", fn := fun _ => fun
  | [d1, d2, d3, d4, d5, d6, d7, d8, d9, d10] => { results := [.lit (.bool true)], args := [d1, d2, d3, d4, d5, d6, d7, d8, d9, d10] }
  | _ => none }
def fnOrderKeyBeforeIsBigEndianByteOrderRow : OpenClaim := { program := "qxb6601055amods", sum := "7359bd61a8d72cf8518fcf927a998bc80ebed20dd8742598284b12306c99b1f7", func := "example.com/causeway/causeway/zzlaws_root_b1.FnOrderKeyBeforeIsBigEndianByteOrder", spec := "fnOrderKeyBeforeIsBigEndianByteOrder", make := .lifted ["publicsums"], apart := false }
def FnOrderKeyBeforeIsBigEndianByteOrderSaid : Prop := fnOrderKeyBeforeIsBigEndianByteOrderRow.holds Trym.pinned (OpenSpec.ofChange fnOrderKeyBeforeIsBigEndianByteOrderSpec)

/-- ITS FALSE NEIGHBOUR: 'it returns false'. Refute it at one input. -/
def fnOrderKeyBeforeIsBigEndianByteOrderWrong : ChangeSpec := { name := "fnOrderKeyBeforeIsBigEndianByteOrder", fn := fun _ => fun
  | [d1, d2, d3, d4, d5, d6, d7, d8, d9, d10] => { results := [.lit (.bool false)], args := [d1, d2, d3, d4, d5, d6, d7, d8, d9, d10] }
  | _ => none }
def FnOrderKeyBeforeIsBigEndianByteOrderWrongFalsely : Prop := fnOrderKeyBeforeIsBigEndianByteOrderRow.holds Trym.pinned (OpenSpec.ofChange fnOrderKeyBeforeIsBigEndianByteOrderWrong)

/-- 'zzlaws_root_b1.FnOrderKeyBeforeIsStrictTotalOrder': WHATEVER THE INPUT: true; the input reads as it did. -/
def fnOrderKeyBeforeIsStrictTotalOrderSpec : ChangeSpec := { name := "fnOrderKeyBeforeIsStrictTotalOrder", fn := fun _ => fun
  | [d1, d2, d3, d4, d5, d6, d7, d8, d9, d10] => { results := [.lit (.bool true)], args := [d1, d2, d3, d4, d5, d6, d7, d8, d9, d10] }
  | _ => none }
def fnOrderKeyBeforeIsStrictTotalOrderRow : OpenClaim := { program := "qxb6601055amods", sum := "7359bd61a8d72cf8518fcf927a998bc80ebed20dd8742598284b12306c99b1f7", func := "example.com/causeway/causeway/zzlaws_root_b1.FnOrderKeyBeforeIsStrictTotalOrder", spec := "fnOrderKeyBeforeIsStrictTotalOrder", make := .lifted ["publicsums"], apart := false }
def FnOrderKeyBeforeIsStrictTotalOrderSaid : Prop := fnOrderKeyBeforeIsStrictTotalOrderRow.holds Trym.pinned (OpenSpec.ofChange fnOrderKeyBeforeIsStrictTotalOrderSpec)

/-- ITS FALSE NEIGHBOUR: 'it returns false'. Refute it at one input. -/
def fnOrderKeyBeforeIsStrictTotalOrderWrong : ChangeSpec := { name := "fnOrderKeyBeforeIsStrictTotalOrder", fn := fun _ => fun
  | [d1, d2, d3, d4, d5, d6, d7, d8, d9, d10] => { results := [.lit (.bool false)], args := [d1, d2, d3, d4, d5, d6, d7, d8, d9, d10] }
  | _ => none }
def FnOrderKeyBeforeIsStrictTotalOrderWrongFalsely : Prop := fnOrderKeyBeforeIsStrictTotalOrderRow.holds Trym.pinned (OpenSpec.ofChange fnOrderKeyBeforeIsStrictTotalOrderWrong)

/-- 'zzlaws_root_b1.FnAppendFlagsSetsExactlyTheBitsOfFlagsThatAreOn': WHATEVER THE INPUT: true; the input reads as it did. -/
def fnAppendFlagsSetsExactlyTheBitsOfFlagsThatAreOnSpec : ChangeSpec := { name := "fnAppendFlagsSetsExactlyTheBitsOfFlagsThatAreOn", fn := fun _ => fun
  | [d1, d2, d3] => { results := [.lit (.bool true)], args := [d1, d2, d3] }
  | _ => none }
def fnAppendFlagsSetsExactlyTheBitsOfFlagsThatAreOnRow : OpenClaim := { program := "qxb6601055amods", sum := "7359bd61a8d72cf8518fcf927a998bc80ebed20dd8742598284b12306c99b1f7", func := "example.com/causeway/causeway/zzlaws_root_b1.FnAppendFlagsSetsExactlyTheBitsOfFlagsThatAreOn", spec := "fnAppendFlagsSetsExactlyTheBitsOfFlagsThatAreOn", make := .lifted ["publicsums"], apart := false }
def FnAppendFlagsSetsExactlyTheBitsOfFlagsThatAreOnSaid : Prop := fnAppendFlagsSetsExactlyTheBitsOfFlagsThatAreOnRow.holds Trym.pinned (OpenSpec.ofChange fnAppendFlagsSetsExactlyTheBitsOfFlagsThatAreOnSpec)

/-- ITS FALSE NEIGHBOUR: 'it returns false'. Refute it at one input. -/
def fnAppendFlagsSetsExactlyTheBitsOfFlagsThatAreOnWrong : ChangeSpec := { name := "fnAppendFlagsSetsExactlyTheBitsOfFlagsThatAreOn", fn := fun _ => fun
  | [d1, d2, d3] => { results := [.lit (.bool false)], args := [d1, d2, d3] }
  | _ => none }
def FnAppendFlagsSetsExactlyTheBitsOfFlagsThatAreOnWrongFalsely : Prop := fnAppendFlagsSetsExactlyTheBitsOfFlagsThatAreOnRow.holds Trym.pinned (OpenSpec.ofChange fnAppendFlagsSetsExactlyTheBitsOfFlagsThatAreOnWrong)

/-- 'zzlaws_root_b1.FnAppendFlagsIgnoresOrderOfFlags': WHATEVER THE INPUT: true; the input reads as it did. -/
def fnAppendFlagsIgnoresOrderOfFlagsSpec : ChangeSpec := { name := "fnAppendFlagsIgnoresOrderOfFlags", fn := fun _ => fun
  | [d1, d2] => { results := [.lit (.bool true)], args := [d1, d2] }
  | _ => none }
def fnAppendFlagsIgnoresOrderOfFlagsRow : OpenClaim := { program := "qxb6601055amods", sum := "7359bd61a8d72cf8518fcf927a998bc80ebed20dd8742598284b12306c99b1f7", func := "example.com/causeway/causeway/zzlaws_root_b1.FnAppendFlagsIgnoresOrderOfFlags", spec := "fnAppendFlagsIgnoresOrderOfFlags", make := .lifted ["publicsums"], apart := false }
def FnAppendFlagsIgnoresOrderOfFlagsSaid : Prop := fnAppendFlagsIgnoresOrderOfFlagsRow.holds Trym.pinned (OpenSpec.ofChange fnAppendFlagsIgnoresOrderOfFlagsSpec)

/-- ITS FALSE NEIGHBOUR: 'it returns false'. Refute it at one input. -/
def fnAppendFlagsIgnoresOrderOfFlagsWrong : ChangeSpec := { name := "fnAppendFlagsIgnoresOrderOfFlags", fn := fun _ => fun
  | [d1, d2] => { results := [.lit (.bool false)], args := [d1, d2] }
  | _ => none }
def FnAppendFlagsIgnoresOrderOfFlagsWrongFalsely : Prop := fnAppendFlagsIgnoresOrderOfFlagsRow.holds Trym.pinned (OpenSpec.ofChange fnAppendFlagsIgnoresOrderOfFlagsWrong)

/-- 'zzlaws_root_b1.FnAppendFlagsOfSplitListIsUnion': WHATEVER THE INPUT: true; the input reads as it did. -/
def fnAppendFlagsOfSplitListIsUnionSpec : ChangeSpec := { name := "fnAppendFlagsOfSplitListIsUnion", fn := fun _ => fun
  | [d1, d2, d3] => { results := [.lit (.bool true)], args := [d1, d2, d3] }
  | _ => none }
def fnAppendFlagsOfSplitListIsUnionRow : OpenClaim := { program := "qxb6601055amods", sum := "7359bd61a8d72cf8518fcf927a998bc80ebed20dd8742598284b12306c99b1f7", func := "example.com/causeway/causeway/zzlaws_root_b1.FnAppendFlagsOfSplitListIsUnion", spec := "fnAppendFlagsOfSplitListIsUnion", make := .lifted ["publicsums"], apart := false }
def FnAppendFlagsOfSplitListIsUnionSaid : Prop := fnAppendFlagsOfSplitListIsUnionRow.holds Trym.pinned (OpenSpec.ofChange fnAppendFlagsOfSplitListIsUnionSpec)

/-- ITS FALSE NEIGHBOUR: 'it returns false'. Refute it at one input. -/
def fnAppendFlagsOfSplitListIsUnionWrong : ChangeSpec := { name := "fnAppendFlagsOfSplitListIsUnion", fn := fun _ => fun
  | [d1, d2, d3] => { results := [.lit (.bool false)], args := [d1, d2, d3] }
  | _ => none }
def FnAppendFlagsOfSplitListIsUnionWrongFalsely : Prop := fnAppendFlagsOfSplitListIsUnionRow.holds Trym.pinned (OpenSpec.ofChange fnAppendFlagsOfSplitListIsUnionWrong)

end Rows
end Go.Proofs.Qxb6601055aMods
