/-
  No cell of these rows narrows 'for every input' (looked for: loops, veiled, ifaces, maps, wideKeys, modest, calm, conditions, laid).
  DERIVED. THE GIVEN ROWS OF THIS SEAT. 9 by the template 'for every input the law returns true; each argument reads behind the call as it read before'; 0 by the template 'total and deterministic' (their statements: Qxb6000712aModsTotals.lean).
  GIVEN WITH THE SEED: the statements are not yours to turn. If you find one false, say at which input.
  Laid BY PROGRAM, IN A SANDBOX (cutbox-rows.mjs): the forced cells as the released guide's own fill.sh prints them over the translation a62670282eb7a1f7… (all of the seat's roots in one cut). By AI agents, Wed Nov 11 2026. No macro, syntax, notation, axiom, sorry.
-/
import Derived.Test.Qxb6000712aModsChecked
import GoSem.Claim
import GoSem.ClaimJoined
import GoSem.ClaimMapViews
import Derived.JoinedTies
import Derived.KernelRfl
namespace Go.Proofs.Qxb6000712aMods
/- THE CELL 'sum', in the pinned program and in every row, IS THE sha256 OF THE DUMP (.gsa) THAT Qxb6000712aModsProg.lean LOADS. Nothing in Lean hashes anything: it is a label: what it is worth is what the hold of that sum in a sandbox is worth. -/
noncomputable def Trym.pinned : Pinned := { name := "qxb6000712amods", sum := "a62670282eb7a1f7ccd5fcb3d4cb03a62c879c2cd74e31e21d00c71f46c28a57", checked := Trym.checked }
namespace Rows
def none {H : Type} : Left H := { results := [], args := [] }

/-- 'zzlaws_root_b1.FnCivilDateInverse': WHATEVER THE INPUT: true; the input reads as it did. -/
def fnCivilDateInverseSpec : ChangeSpec := { name := "fnCivilDateInverse", fn := fun _ => fun
  | [d] => { results := [.lit (.bool true)], args := [d] }
  | _ => none }
def fnCivilDateInverseRow : OpenClaim := { program := "qxb6000712amods", sum := "a62670282eb7a1f7ccd5fcb3d4cb03a62c879c2cd74e31e21d00c71f46c28a57", func := "example.com/mirrorlog/mirrorlog/zzlaws_root_b1.FnCivilDateInverse", spec := "fnCivilDateInverse", make := .lifted ["publicsums"], apart := false }
def FnCivilDateInverseSaid : Prop := fnCivilDateInverseRow.holds Trym.pinned (OpenSpec.ofChange fnCivilDateInverseSpec)

/-- ITS FALSE NEIGHBOUR: 'it returns false'. Refute it at one input. -/
def fnCivilDateInverseWrong : ChangeSpec := { name := "fnCivilDateInverse", fn := fun _ => fun
  | [d] => { results := [.lit (.bool false)], args := [d] }
  | _ => none }
def FnCivilDateInverseWrongFalsely : Prop := fnCivilDateInverseRow.holds Trym.pinned (OpenSpec.ofChange fnCivilDateInverseWrong)

/-- 'zzlaws_root_b1.FnCivilDateValid': WHATEVER THE INPUT: true; the input reads as it did. -/
def fnCivilDateValidSpec : ChangeSpec := { name := "fnCivilDateValid", fn := fun _ => fun
  | [d] => { results := [.lit (.bool true)], args := [d] }
  | _ => none }
def fnCivilDateValidRow : OpenClaim := { program := "qxb6000712amods", sum := "a62670282eb7a1f7ccd5fcb3d4cb03a62c879c2cd74e31e21d00c71f46c28a57", func := "example.com/mirrorlog/mirrorlog/zzlaws_root_b1.FnCivilDateValid", spec := "fnCivilDateValid", make := .lifted ["publicsums"], apart := false }
def FnCivilDateValidSaid : Prop := fnCivilDateValidRow.holds Trym.pinned (OpenSpec.ofChange fnCivilDateValidSpec)

/-- ITS FALSE NEIGHBOUR: 'it returns false'. Refute it at one input. -/
def fnCivilDateValidWrong : ChangeSpec := { name := "fnCivilDateValid", fn := fun _ => fun
  | [d] => { results := [.lit (.bool false)], args := [d] }
  | _ => none }
def FnCivilDateValidWrongFalsely : Prop := fnCivilDateValidRow.holds Trym.pinned (OpenSpec.ofChange fnCivilDateValidWrong)

/-- 'zzlaws_root_b1.FnCivilDateNextDay': WHATEVER THE INPUT: true; the input reads as it did. -/
def fnCivilDateNextDaySpec : ChangeSpec := { name := "fnCivilDateNextDay", fn := fun _ => fun
  | [d] => { results := [.lit (.bool true)], args := [d] }
  | _ => none }
def fnCivilDateNextDayRow : OpenClaim := { program := "qxb6000712amods", sum := "a62670282eb7a1f7ccd5fcb3d4cb03a62c879c2cd74e31e21d00c71f46c28a57", func := "example.com/mirrorlog/mirrorlog/zzlaws_root_b1.FnCivilDateNextDay", spec := "fnCivilDateNextDay", make := .lifted ["publicsums"], apart := false }
def FnCivilDateNextDaySaid : Prop := fnCivilDateNextDayRow.holds Trym.pinned (OpenSpec.ofChange fnCivilDateNextDaySpec)

/-- ITS FALSE NEIGHBOUR: 'it returns false'. Refute it at one input. -/
def fnCivilDateNextDayWrong : ChangeSpec := { name := "fnCivilDateNextDay", fn := fun _ => fun
  | [d] => { results := [.lit (.bool false)], args := [d] }
  | _ => none }
def FnCivilDateNextDayWrongFalsely : Prop := fnCivilDateNextDayRow.holds Trym.pinned (OpenSpec.ofChange fnCivilDateNextDayWrong)

/-- 'zzlaws_root_b1.FnMatchNameModel': WHATEVER THE INPUT: true; the input reads as it did. -/
def fnMatchNameModelSpec : ChangeSpec := { name := "fnMatchNameModel", fn := fun _ => fun
  | [d1, d2] => { results := [.lit (.bool true)], args := [d1, d2] }
  | _ => none }
def fnMatchNameModelRow : OpenClaim := { program := "qxb6000712amods", sum := "a62670282eb7a1f7ccd5fcb3d4cb03a62c879c2cd74e31e21d00c71f46c28a57", func := "example.com/mirrorlog/mirrorlog/zzlaws_root_b1.FnMatchNameModel", spec := "fnMatchNameModel", make := .lifted ["publicsums"], apart := false }
def FnMatchNameModelSaid : Prop := fnMatchNameModelRow.holds Trym.pinned (OpenSpec.ofChange fnMatchNameModelSpec)

/-- ITS FALSE NEIGHBOUR: 'it returns false'. Refute it at one input. -/
def fnMatchNameModelWrong : ChangeSpec := { name := "fnMatchNameModel", fn := fun _ => fun
  | [d1, d2] => { results := [.lit (.bool false)], args := [d1, d2] }
  | _ => none }
def FnMatchNameModelWrongFalsely : Prop := fnMatchNameModelRow.holds Trym.pinned (OpenSpec.ofChange fnMatchNameModelWrong)

/-- 'zzlaws_root_b1.FnMatchNameLiteral': WHATEVER THE INPUT: true; the input reads as it did. -/
def fnMatchNameLiteralSpec : ChangeSpec := { name := "fnMatchNameLiteral", fn := fun _ => fun
  | [d1, d2] => { results := [.lit (.bool true)], args := [d1, d2] }
  | _ => none }
def fnMatchNameLiteralRow : OpenClaim := { program := "qxb6000712amods", sum := "a62670282eb7a1f7ccd5fcb3d4cb03a62c879c2cd74e31e21d00c71f46c28a57", func := "example.com/mirrorlog/mirrorlog/zzlaws_root_b1.FnMatchNameLiteral", spec := "fnMatchNameLiteral", make := .lifted ["publicsums"], apart := false }
def FnMatchNameLiteralSaid : Prop := fnMatchNameLiteralRow.holds Trym.pinned (OpenSpec.ofChange fnMatchNameLiteralSpec)

/-- ITS FALSE NEIGHBOUR: 'it returns false'. Refute it at one input. -/
def fnMatchNameLiteralWrong : ChangeSpec := { name := "fnMatchNameLiteral", fn := fun _ => fun
  | [d1, d2] => { results := [.lit (.bool false)], args := [d1, d2] }
  | _ => none }
def FnMatchNameLiteralWrongFalsely : Prop := fnMatchNameLiteralRow.holds Trym.pinned (OpenSpec.ofChange fnMatchNameLiteralWrong)

/-- 'zzlaws_root_b1.FnMatchNameStarWidens': WHATEVER THE INPUT: true; the input reads as it did. -/
def fnMatchNameStarWidensSpec : ChangeSpec := { name := "fnMatchNameStarWidens", fn := fun _ => fun
  | [d1, d2, d3] => { results := [.lit (.bool true)], args := [d1, d2, d3] }
  | _ => none }
def fnMatchNameStarWidensRow : OpenClaim := { program := "qxb6000712amods", sum := "a62670282eb7a1f7ccd5fcb3d4cb03a62c879c2cd74e31e21d00c71f46c28a57", func := "example.com/mirrorlog/mirrorlog/zzlaws_root_b1.FnMatchNameStarWidens", spec := "fnMatchNameStarWidens", make := .lifted ["publicsums"], apart := false }
def FnMatchNameStarWidensSaid : Prop := fnMatchNameStarWidensRow.holds Trym.pinned (OpenSpec.ofChange fnMatchNameStarWidensSpec)

/-- ITS FALSE NEIGHBOUR: 'it returns false'. Refute it at one input. -/
def fnMatchNameStarWidensWrong : ChangeSpec := { name := "fnMatchNameStarWidens", fn := fun _ => fun
  | [d1, d2, d3] => { results := [.lit (.bool false)], args := [d1, d2, d3] }
  | _ => none }
def FnMatchNameStarWidensWrongFalsely : Prop := fnMatchNameStarWidensRow.holds Trym.pinned (OpenSpec.ofChange fnMatchNameStarWidensWrong)

/-- 'zzlaws_root_b1.FnAppendUnescapedRoundTrip': WHATEVER THE INPUT: true; the input reads as it did. -/
def fnAppendUnescapedRoundTripSpec : ChangeSpec := { name := "fnAppendUnescapedRoundTrip", fn := fun _ => fun
  | [d1, d2] => { results := [.lit (.bool true)], args := [d1, d2] }
  | _ => none }
def fnAppendUnescapedRoundTripRow : OpenClaim := { program := "qxb6000712amods", sum := "a62670282eb7a1f7ccd5fcb3d4cb03a62c879c2cd74e31e21d00c71f46c28a57", func := "example.com/mirrorlog/mirrorlog/zzlaws_root_b1.FnAppendUnescapedRoundTrip", spec := "fnAppendUnescapedRoundTrip", make := .lifted ["publicsums"], apart := false }
def FnAppendUnescapedRoundTripSaid : Prop := fnAppendUnescapedRoundTripRow.holds Trym.pinned (OpenSpec.ofChange fnAppendUnescapedRoundTripSpec)

/-- ITS FALSE NEIGHBOUR: 'it returns false'. Refute it at one input. -/
def fnAppendUnescapedRoundTripWrong : ChangeSpec := { name := "fnAppendUnescapedRoundTrip", fn := fun _ => fun
  | [d1, d2] => { results := [.lit (.bool false)], args := [d1, d2] }
  | _ => none }
def FnAppendUnescapedRoundTripWrongFalsely : Prop := fnAppendUnescapedRoundTripRow.holds Trym.pinned (OpenSpec.ofChange fnAppendUnescapedRoundTripWrong)

/-- 'zzlaws_root_b1.FnAppendUnescapedSplit': WHATEVER THE INPUT: true; the input reads as it did. -/
def fnAppendUnescapedSplitSpec : ChangeSpec := { name := "fnAppendUnescapedSplit", fn := fun _ => fun
  | [d1, d2, d3, d4] => { results := [.lit (.bool true)], args := [d1, d2, d3, d4] }
  | _ => none }
def fnAppendUnescapedSplitRow : OpenClaim := { program := "qxb6000712amods", sum := "a62670282eb7a1f7ccd5fcb3d4cb03a62c879c2cd74e31e21d00c71f46c28a57", func := "example.com/mirrorlog/mirrorlog/zzlaws_root_b1.FnAppendUnescapedSplit", spec := "fnAppendUnescapedSplit", make := .lifted ["publicsums"], apart := false }
def FnAppendUnescapedSplitSaid : Prop := fnAppendUnescapedSplitRow.holds Trym.pinned (OpenSpec.ofChange fnAppendUnescapedSplitSpec)

/-- ITS FALSE NEIGHBOUR: 'it returns false'. Refute it at one input. -/
def fnAppendUnescapedSplitWrong : ChangeSpec := { name := "fnAppendUnescapedSplit", fn := fun _ => fun
  | [d1, d2, d3, d4] => { results := [.lit (.bool false)], args := [d1, d2, d3, d4] }
  | _ => none }
def FnAppendUnescapedSplitWrongFalsely : Prop := fnAppendUnescapedSplitRow.holds Trym.pinned (OpenSpec.ofChange fnAppendUnescapedSplitWrong)

/-- 'zzlaws_root_b1.FnAppendUnescapedBounds': WHATEVER THE INPUT: true; the input reads as it did. -/
def fnAppendUnescapedBoundsSpec : ChangeSpec := { name := "fnAppendUnescapedBounds", fn := fun _ => fun
  | [d1, d2, d3] => { results := [.lit (.bool true)], args := [d1, d2, d3] }
  | _ => none }
def fnAppendUnescapedBoundsRow : OpenClaim := { program := "qxb6000712amods", sum := "a62670282eb7a1f7ccd5fcb3d4cb03a62c879c2cd74e31e21d00c71f46c28a57", func := "example.com/mirrorlog/mirrorlog/zzlaws_root_b1.FnAppendUnescapedBounds", spec := "fnAppendUnescapedBounds", make := .lifted ["publicsums"], apart := false }
def FnAppendUnescapedBoundsSaid : Prop := fnAppendUnescapedBoundsRow.holds Trym.pinned (OpenSpec.ofChange fnAppendUnescapedBoundsSpec)

/-- ITS FALSE NEIGHBOUR: 'it returns false'. Refute it at one input. -/
def fnAppendUnescapedBoundsWrong : ChangeSpec := { name := "fnAppendUnescapedBounds", fn := fun _ => fun
  | [d1, d2, d3] => { results := [.lit (.bool false)], args := [d1, d2, d3] }
  | _ => none }
def FnAppendUnescapedBoundsWrongFalsely : Prop := fnAppendUnescapedBoundsRow.holds Trym.pinned (OpenSpec.ofChange fnAppendUnescapedBoundsWrong)

end Rows
end Go.Proofs.Qxb6000712aMods
