/-
  No cell of these rows narrows 'for every input' (looked for: loops, veiled, ifaces, maps, wideKeys, modest, calm, conditions, laid).
  DERIVED. THE GIVEN ROWS OF THIS SEAT. 4 by the template 'for every input the law returns true; each argument reads behind the call as it read before'; 0 by the template 'total and deterministic' (their statements: Qxb6601530aModsTotals.lean).
  GIVEN WITH THE SEED: the statements are not yours to turn. If you find one false, say at which input.
  Laid BY PROGRAM, IN A SANDBOX (cutbox-rows.mjs): the forced cells as the released guide's own fill.sh prints them over the translation 164b851ff2c8bf1d… (all of the seat's roots in one cut). By AI agents, Wed Nov 11 2026. No macro, syntax, notation, axiom, sorry.
-/
import Derived.Test.Qxb6601530aModsChecked
import GoSem.Claim
import GoSem.ClaimJoined
import GoSem.ClaimMapViews
import Derived.JoinedTies
import Derived.KernelRfl
namespace Go.Proofs.Qxb6601530aMods
/- THE CELL 'sum', in the pinned program and in every row, IS THE sha256 OF THE DUMP (.gsa) THAT Qxb6601530aModsProg.lean LOADS. Nothing in Lean hashes anything: it is a label: what it is worth is what the hold of that sum in a sandbox is worth. -/
noncomputable def Trym.pinned : Pinned := { name := "qxb6601530amods", sum := "164b851ff2c8bf1d533e540a1874a51f14a5f09fbc9321f7c49d04a10a9b9573", checked := Trym.checked }
namespace Rows
def none {H : Type} : Left H := { results := [], args := [] }

/-- 'zzlaws_root_b1.FnCutPartsTileTheLabelsMap': WHATEVER THE INPUT: true; the input reads as it did. -/
def fnCutPartsTileTheLabelsMapSpec : ChangeSpec := { name := "fnCutPartsTileTheLabelsMap", fn := fun _ => fun
  | [d1, d2, d3] => { results := [.lit (.bool true)], args := [d1, d2, d3] }
  | _ => none }
def fnCutPartsTileTheLabelsMapRow : OpenClaim := { program := "qxb6601530amods", sum := "164b851ff2c8bf1d533e540a1874a51f14a5f09fbc9321f7c49d04a10a9b9573", func := "example.com/glasskey/glasskey/zzlaws_root_b1.FnCutPartsTileTheLabelsMap", spec := "fnCutPartsTileTheLabelsMap", unfollowed := true, recurses := true, make := .lifted ["publicsums"], apart := false }
def FnCutPartsTileTheLabelsMapSaid : Prop := fnCutPartsTileTheLabelsMapRow.holds Trym.pinned (OpenSpec.ofChange fnCutPartsTileTheLabelsMapSpec)

/-- ITS FALSE NEIGHBOUR: 'it returns false'. Refute it at one input. -/
def fnCutPartsTileTheLabelsMapWrong : ChangeSpec := { name := "fnCutPartsTileTheLabelsMap", fn := fun _ => fun
  | [d1, d2, d3] => { results := [.lit (.bool false)], args := [d1, d2, d3] }
  | _ => none }
def FnCutPartsTileTheLabelsMapWrongFalsely : Prop := fnCutPartsTileTheLabelsMapRow.holds Trym.pinned (OpenSpec.ofChange fnCutPartsTileTheLabelsMapWrong)

/-- 'zzlaws_root_b1.FnRecentAtFindsLeftmostEntryAtPos': WHATEVER THE INPUT: true; the input reads as it did. -/
def fnRecentAtFindsLeftmostEntryAtPosSpec : ChangeSpec := { name := "fnRecentAtFindsLeftmostEntryAtPos", fn := fun _ => fun
  | [d1, d2, d3] => { results := [.lit (.bool true)], args := [d1, d2, d3] }
  | _ => none }
def fnRecentAtFindsLeftmostEntryAtPosRow : OpenClaim := { program := "qxb6601530amods", sum := "164b851ff2c8bf1d533e540a1874a51f14a5f09fbc9321f7c49d04a10a9b9573", func := "example.com/glasskey/glasskey/zzlaws_root_b1.FnRecentAtFindsLeftmostEntryAtPos", spec := "fnRecentAtFindsLeftmostEntryAtPos", make := .lifted ["publicsums"], apart := false }
def FnRecentAtFindsLeftmostEntryAtPosSaid : Prop := fnRecentAtFindsLeftmostEntryAtPosRow.holds Trym.pinned (OpenSpec.ofChange fnRecentAtFindsLeftmostEntryAtPosSpec)

/-- ITS FALSE NEIGHBOUR: 'it returns false'. Refute it at one input. -/
def fnRecentAtFindsLeftmostEntryAtPosWrong : ChangeSpec := { name := "fnRecentAtFindsLeftmostEntryAtPos", fn := fun _ => fun
  | [d1, d2, d3] => { results := [.lit (.bool false)], args := [d1, d2, d3] }
  | _ => none }
def FnRecentAtFindsLeftmostEntryAtPosWrongFalsely : Prop := fnRecentAtFindsLeftmostEntryAtPosRow.holds Trym.pinned (OpenSpec.ofChange fnRecentAtFindsLeftmostEntryAtPosWrong)

/-- 'zzlaws_root_b1.FnOwnershipAtIsLastMadeVersionAtOrBeforePos': WHATEVER THE INPUT: true; the input reads as it did. -/
def fnOwnershipAtIsLastMadeVersionAtOrBeforePosSpec : ChangeSpec := { name := "fnOwnershipAtIsLastMadeVersionAtOrBeforePos", fn := fun _ => fun
  | [d1, d2, d3, d4] => { results := [.lit (.bool true)], args := [d1, d2, d3, d4] }
  | _ => none }
def fnOwnershipAtIsLastMadeVersionAtOrBeforePosRow : OpenClaim := { program := "qxb6601530amods", sum := "164b851ff2c8bf1d533e540a1874a51f14a5f09fbc9321f7c49d04a10a9b9573", func := "example.com/glasskey/glasskey/zzlaws_root_b1.FnOwnershipAtIsLastMadeVersionAtOrBeforePos", spec := "fnOwnershipAtIsLastMadeVersionAtOrBeforePos", make := .lifted ["publicsums"], apart := false }
def FnOwnershipAtIsLastMadeVersionAtOrBeforePosSaid : Prop := fnOwnershipAtIsLastMadeVersionAtOrBeforePosRow.holds Trym.pinned (OpenSpec.ofChange fnOwnershipAtIsLastMadeVersionAtOrBeforePosSpec)

/-- ITS FALSE NEIGHBOUR: 'it returns false'. Refute it at one input. -/
def fnOwnershipAtIsLastMadeVersionAtOrBeforePosWrong : ChangeSpec := { name := "fnOwnershipAtIsLastMadeVersionAtOrBeforePos", fn := fun _ => fun
  | [d1, d2, d3, d4] => { results := [.lit (.bool false)], args := [d1, d2, d3, d4] }
  | _ => none }
def FnOwnershipAtIsLastMadeVersionAtOrBeforePosWrongFalsely : Prop := fnOwnershipAtIsLastMadeVersionAtOrBeforePosRow.holds Trym.pinned (OpenSpec.ofChange fnOwnershipAtIsLastMadeVersionAtOrBeforePosWrong)

/-- 'zzlaws_root_b1.FnOwnershipAtGrowsWithPosition': WHATEVER THE INPUT: true; the input reads as it did. -/
def fnOwnershipAtGrowsWithPositionSpec : ChangeSpec := { name := "fnOwnershipAtGrowsWithPosition", fn := fun _ => fun
  | [d1, d2, d3, d4, d5] => { results := [.lit (.bool true)], args := [d1, d2, d3, d4, d5] }
  | _ => none }
def fnOwnershipAtGrowsWithPositionRow : OpenClaim := { program := "qxb6601530amods", sum := "164b851ff2c8bf1d533e540a1874a51f14a5f09fbc9321f7c49d04a10a9b9573", func := "example.com/glasskey/glasskey/zzlaws_root_b1.FnOwnershipAtGrowsWithPosition", spec := "fnOwnershipAtGrowsWithPosition", make := .lifted ["publicsums"], apart := false }
def FnOwnershipAtGrowsWithPositionSaid : Prop := fnOwnershipAtGrowsWithPositionRow.holds Trym.pinned (OpenSpec.ofChange fnOwnershipAtGrowsWithPositionSpec)

/-- ITS FALSE NEIGHBOUR: 'it returns false'. Refute it at one input. -/
def fnOwnershipAtGrowsWithPositionWrong : ChangeSpec := { name := "fnOwnershipAtGrowsWithPosition", fn := fun _ => fun
  | [d1, d2, d3, d4, d5] => { results := [.lit (.bool false)], args := [d1, d2, d3, d4, d5] }
  | _ => none }
def FnOwnershipAtGrowsWithPositionWrongFalsely : Prop := fnOwnershipAtGrowsWithPositionRow.holds Trym.pinned (OpenSpec.ofChange fnOwnershipAtGrowsWithPositionWrong)

end Rows
end Go.Proofs.Qxb6601530aMods
