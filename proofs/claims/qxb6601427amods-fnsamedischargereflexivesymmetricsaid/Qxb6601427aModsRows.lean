/-
  No cell of these rows narrows 'for every input' (looked for: loops, veiled, ifaces, maps, wideKeys, modest, calm, conditions, laid).
  DERIVED. THE GIVEN ROWS OF THIS SEAT. 5 by the template 'for every input the law returns true; each argument reads behind the call as it read before'; 0 by the template 'total and deterministic' (their statements: Qxb6601427aModsTotals.lean).
  GIVEN WITH THE SEED: the statements are not yours to turn. If you find one false, say at which input.
  Laid BY PROGRAM, IN A SANDBOX (cutbox-rows.mjs): the forced cells as the released guide's own fill.sh prints them over the translation 12d3bc61e1a67396… (all of the seat's roots in one cut). By AI agents, Wed Nov 11 2026. No macro, syntax, notation, axiom, sorry.
-/
import Derived.Test.Qxb6601427aModsChecked
import GoSem.Claim
import GoSem.ClaimJoined
import GoSem.ClaimMapViews
import Derived.JoinedTies
import Derived.KernelRfl
namespace Go.Proofs.Qxb6601427aMods
/- THE CELL 'sum', in the pinned program and in every row, IS THE sha256 OF THE DUMP (.gsa) THAT Qxb6601427aModsProg.lean LOADS. Nothing in Lean hashes anything: it is a label: what it is worth is what the hold of that sum in a sandbox is worth. -/
noncomputable def Trym.pinned : Pinned := { name := "qxb6601427amods", sum := "12d3bc61e1a6739662a9fdb05b17b2e81922656a32470a979fce617c8ea6e665", checked := Trym.checked }
namespace Rows
def none {H : Type} : Left H := { results := [], args := [] }

/-- 'zzlaws_root_b1.FnClockValueMatchesGrammar': WHATEVER THE INPUT: true; the input reads as it did. -/
def fnClockValueMatchesGrammarSpec : ChangeSpec := { name := "fnClockValueMatchesGrammar", fn := fun _ => fun
  | [d] => { results := [.lit (.bool true)], args := [d] }
  | _ => none }
def fnClockValueMatchesGrammarRow : OpenClaim := { program := "qxb6601427amods", sum := "12d3bc61e1a6739662a9fdb05b17b2e81922656a32470a979fce617c8ea6e665", func := "example.com/rolecall/rolecall/zzlaws_root_b1.FnClockValueMatchesGrammar", spec := "fnClockValueMatchesGrammar", make := .lifted ["publicsums"], apart := false }
def FnClockValueMatchesGrammarSaid : Prop := fnClockValueMatchesGrammarRow.holds Trym.pinned (OpenSpec.ofChange fnClockValueMatchesGrammarSpec)

/-- ITS FALSE NEIGHBOUR: 'it returns false'. Refute it at one input. -/
def fnClockValueMatchesGrammarWrong : ChangeSpec := { name := "fnClockValueMatchesGrammar", fn := fun _ => fun
  | [d] => { results := [.lit (.bool false)], args := [d] }
  | _ => none }
def FnClockValueMatchesGrammarWrongFalsely : Prop := fnClockValueMatchesGrammarRow.holds Trym.pinned (OpenSpec.ofChange fnClockValueMatchesGrammarWrong)

/-- 'zzlaws_root_b1.FnClockValueRoundTrip': WHATEVER THE INPUT: true; the input reads as it did. -/
def fnClockValueRoundTripSpec : ChangeSpec := { name := "fnClockValueRoundTrip", fn := fun _ => fun
  | [d] => { results := [.lit (.bool true)], args := [d] }
  | _ => none }
def fnClockValueRoundTripRow : OpenClaim := { program := "qxb6601427amods", sum := "12d3bc61e1a6739662a9fdb05b17b2e81922656a32470a979fce617c8ea6e665", func := "example.com/rolecall/rolecall/zzlaws_root_b1.FnClockValueRoundTrip", spec := "fnClockValueRoundTrip", make := .lifted ["publicsums"], apart := false }
def FnClockValueRoundTripSaid : Prop := fnClockValueRoundTripRow.holds Trym.pinned (OpenSpec.ofChange fnClockValueRoundTripSpec)

/-- ITS FALSE NEIGHBOUR: 'it returns false'. Refute it at one input. -/
def fnClockValueRoundTripWrong : ChangeSpec := { name := "fnClockValueRoundTrip", fn := fun _ => fun
  | [d] => { results := [.lit (.bool false)], args := [d] }
  | _ => none }
def FnClockValueRoundTripWrongFalsely : Prop := fnClockValueRoundTripRow.holds Trym.pinned (OpenSpec.ofChange fnClockValueRoundTripWrong)

/-- 'zzlaws_root_b1.FnClockValueOrderMatchesText': WHATEVER THE INPUT: true; the input reads as it did. -/
def fnClockValueOrderMatchesTextSpec : ChangeSpec := { name := "fnClockValueOrderMatchesText", fn := fun _ => fun
  | [d1, d2] => { results := [.lit (.bool true)], args := [d1, d2] }
  | _ => none }
def fnClockValueOrderMatchesTextRow : OpenClaim := { program := "qxb6601427amods", sum := "12d3bc61e1a6739662a9fdb05b17b2e81922656a32470a979fce617c8ea6e665", func := "example.com/rolecall/rolecall/zzlaws_root_b1.FnClockValueOrderMatchesText", spec := "fnClockValueOrderMatchesText", make := .lifted ["publicsums"], apart := false }
def FnClockValueOrderMatchesTextSaid : Prop := fnClockValueOrderMatchesTextRow.holds Trym.pinned (OpenSpec.ofChange fnClockValueOrderMatchesTextSpec)

/-- ITS FALSE NEIGHBOUR: 'it returns false'. Refute it at one input. -/
def fnClockValueOrderMatchesTextWrong : ChangeSpec := { name := "fnClockValueOrderMatchesText", fn := fun _ => fun
  | [d1, d2] => { results := [.lit (.bool false)], args := [d1, d2] }
  | _ => none }
def FnClockValueOrderMatchesTextWrongFalsely : Prop := fnClockValueOrderMatchesTextRow.holds Trym.pinned (OpenSpec.ofChange fnClockValueOrderMatchesTextWrong)

/-- 'zzlaws_root_b1.FnSameDischargeMatchesEncoding': WHATEVER THE INPUT: true; the input reads as it did. -/
def fnSameDischargeMatchesEncodingSpec : ChangeSpec := { name := "fnSameDischargeMatchesEncoding", fn := fun _ => fun
  | [d1, d2, d3, d4, d5, d6, d7, d8] => { results := [.lit (.bool true)], args := [d1, d2, d3, d4, d5, d6, d7, d8] }
  | _ => none }
def fnSameDischargeMatchesEncodingRow : OpenClaim := { program := "qxb6601427amods", sum := "12d3bc61e1a6739662a9fdb05b17b2e81922656a32470a979fce617c8ea6e665", func := "example.com/rolecall/rolecall/zzlaws_root_b1.FnSameDischargeMatchesEncoding", spec := "fnSameDischargeMatchesEncoding", make := .lifted ["publicsums"], apart := false }
def FnSameDischargeMatchesEncodingSaid : Prop := fnSameDischargeMatchesEncodingRow.holds Trym.pinned (OpenSpec.ofChange fnSameDischargeMatchesEncodingSpec)

/-- ITS FALSE NEIGHBOUR: 'it returns false'. Refute it at one input. -/
def fnSameDischargeMatchesEncodingWrong : ChangeSpec := { name := "fnSameDischargeMatchesEncoding", fn := fun _ => fun
  | [d1, d2, d3, d4, d5, d6, d7, d8] => { results := [.lit (.bool false)], args := [d1, d2, d3, d4, d5, d6, d7, d8] }
  | _ => none }
def FnSameDischargeMatchesEncodingWrongFalsely : Prop := fnSameDischargeMatchesEncodingRow.holds Trym.pinned (OpenSpec.ofChange fnSameDischargeMatchesEncodingWrong)

/-- 'zzlaws_root_b1.FnSameDischargeReflexiveSymmetric': WHATEVER THE INPUT: true; the input reads as it did. -/
def fnSameDischargeReflexiveSymmetricSpec : ChangeSpec := { name := "fnSameDischargeReflexiveSymmetric", fn := fun _ => fun
  | [d1, d2, d3, d4, d5, d6, d7, d8] => { results := [.lit (.bool true)], args := [d1, d2, d3, d4, d5, d6, d7, d8] }
  | _ => none }
def fnSameDischargeReflexiveSymmetricRow : OpenClaim := { program := "qxb6601427amods", sum := "12d3bc61e1a6739662a9fdb05b17b2e81922656a32470a979fce617c8ea6e665", func := "example.com/rolecall/rolecall/zzlaws_root_b1.FnSameDischargeReflexiveSymmetric", spec := "fnSameDischargeReflexiveSymmetric", make := .lifted ["publicsums"], apart := false }
def FnSameDischargeReflexiveSymmetricSaid : Prop := fnSameDischargeReflexiveSymmetricRow.holds Trym.pinned (OpenSpec.ofChange fnSameDischargeReflexiveSymmetricSpec)

/-- ITS FALSE NEIGHBOUR: 'it returns false'. Refute it at one input. -/
def fnSameDischargeReflexiveSymmetricWrong : ChangeSpec := { name := "fnSameDischargeReflexiveSymmetric", fn := fun _ => fun
  | [d1, d2, d3, d4, d5, d6, d7, d8] => { results := [.lit (.bool false)], args := [d1, d2, d3, d4, d5, d6, d7, d8] }
  | _ => none }
def FnSameDischargeReflexiveSymmetricWrongFalsely : Prop := fnSameDischargeReflexiveSymmetricRow.holds Trym.pinned (OpenSpec.ofChange fnSameDischargeReflexiveSymmetricWrong)

end Rows
end Go.Proofs.Qxb6601427aMods
