/-
  No cell of these rows narrows 'for every input' (looked for: loops, veiled, ifaces, maps, wideKeys, modest, calm, conditions, laid).
  DERIVED. THE GIVEN ROWS OF THIS SEAT. 5 by the template 'for every input the law returns true; each argument reads behind the call as it read before'; 0 by the template 'total and deterministic' (their statements: Qxb6618147aModsTotals.lean).
  GIVEN WITH THE SEED: the statements are not yours to turn. If you find one false, say at which input.
  Laid BY PROGRAM, IN A SANDBOX (cutbox-rows.mjs): the forced cells as the released guide's own fill.sh prints them over the translation 41ba4f737baad7fa… (all of the seat's roots in one cut). By AI agents, Wed Nov 11 2026. No macro, syntax, notation, axiom, sorry.
-/
import Derived.Test.Qxb6618147aModsChecked
import GoSem.Claim
import GoSem.ClaimJoined
import GoSem.ClaimMapViews
import Derived.JoinedTies
import Derived.KernelRfl
namespace Go.Proofs.Qxb6618147aMods
/- THE CELL 'sum', in the pinned program and in every row, IS THE sha256 OF THE DUMP (.gsa) THAT Qxb6618147aModsProg.lean LOADS. Nothing in Lean hashes anything: it is a label: what it is worth is what the hold of that sum in a sandbox is worth. -/
noncomputable def Trym.pinned : Pinned := { name := "qxb6618147amods", sum := "41ba4f737baad7fa9138d7ef37f482e58a4d9fc57dbc1eaae5976baffa29abc3", checked := Trym.checked }
namespace Rows
def none {H : Type} : Left H := { results := [], args := [] }

/-- 'zzlaws_root_b1.FnDecisionLineSameIffSameMeaning': WHATEVER THE INPUT: true; the input reads as it did. -/
def fnDecisionLineSameIffSameMeaningSpec : ChangeSpec := { name := "fnDecisionLineSameIffSameMeaning", fn := fun _ => fun
  | [d1, d2, d3, d4, d5, d6, d7, d8] => { results := [.lit (.bool true)], args := [d1, d2, d3, d4, d5, d6, d7, d8] }
  | _ => none }
def fnDecisionLineSameIffSameMeaningRow : OpenClaim := { program := "qxb6618147amods", sum := "41ba4f737baad7fa9138d7ef37f482e58a4d9fc57dbc1eaae5976baffa29abc3", func := "example.com/provizo/provizo/zzlaws_root_b1.FnDecisionLineSameIffSameMeaning", spec := "fnDecisionLineSameIffSameMeaning", make := .lifted ["publicsums"], apart := false }
def FnDecisionLineSameIffSameMeaningSaid : Prop := fnDecisionLineSameIffSameMeaningRow.holds Trym.pinned (OpenSpec.ofChange fnDecisionLineSameIffSameMeaningSpec)

/-- ITS FALSE NEIGHBOUR: 'it returns false'. Refute it at one input. -/
def fnDecisionLineSameIffSameMeaningWrong : ChangeSpec := { name := "fnDecisionLineSameIffSameMeaning", fn := fun _ => fun
  | [d1, d2, d3, d4, d5, d6, d7, d8] => { results := [.lit (.bool false)], args := [d1, d2, d3, d4, d5, d6, d7, d8] }
  | _ => none }
def FnDecisionLineSameIffSameMeaningWrongFalsely : Prop := fnDecisionLineSameIffSameMeaningRow.holds Trym.pinned (OpenSpec.ofChange fnDecisionLineSameIffSameMeaningWrong)

/-- 'zzlaws_root_b1.FnUTF16KeyOrdersAsUTF16Units': WHATEVER THE INPUT: true; the input reads as it did. -/
def fnUTF16KeyOrdersAsUTF16UnitsSpec : ChangeSpec := { name := "fnUTF16KeyOrdersAsUTF16Units", fn := fun _ => fun
  | [d1, d2] => { results := [.lit (.bool true)], args := [d1, d2] }
  | _ => none }
def fnUTF16KeyOrdersAsUTF16UnitsRow : OpenClaim := { program := "qxb6618147amods", sum := "41ba4f737baad7fa9138d7ef37f482e58a4d9fc57dbc1eaae5976baffa29abc3", func := "example.com/provizo/provizo/zzlaws_root_b1.FnUTF16KeyOrdersAsUTF16Units", spec := "fnUTF16KeyOrdersAsUTF16Units", make := .lifted ["publicsums"], apart := false }
def FnUTF16KeyOrdersAsUTF16UnitsSaid : Prop := fnUTF16KeyOrdersAsUTF16UnitsRow.holds Trym.pinned (OpenSpec.ofChange fnUTF16KeyOrdersAsUTF16UnitsSpec)

/-- ITS FALSE NEIGHBOUR: 'it returns false'. Refute it at one input. -/
def fnUTF16KeyOrdersAsUTF16UnitsWrong : ChangeSpec := { name := "fnUTF16KeyOrdersAsUTF16Units", fn := fun _ => fun
  | [d1, d2] => { results := [.lit (.bool false)], args := [d1, d2] }
  | _ => none }
def FnUTF16KeyOrdersAsUTF16UnitsWrongFalsely : Prop := fnUTF16KeyOrdersAsUTF16UnitsRow.holds Trym.pinned (OpenSpec.ofChange fnUTF16KeyOrdersAsUTF16UnitsWrong)

/-- 'zzlaws_root_b1.FnUTF16KeyStringOrderIsUTF16Order': WHATEVER THE INPUT: true; the input reads as it did. -/
def fnUTF16KeyStringOrderIsUTF16OrderSpec : ChangeSpec := { name := "fnUTF16KeyStringOrderIsUTF16Order", fn := fun _ => fun
  | [d1, d2] => { results := [.lit (.bool true)], args := [d1, d2] }
  | _ => none }
def fnUTF16KeyStringOrderIsUTF16OrderRow : OpenClaim := { program := "qxb6618147amods", sum := "41ba4f737baad7fa9138d7ef37f482e58a4d9fc57dbc1eaae5976baffa29abc3", func := "example.com/provizo/provizo/zzlaws_root_b1.FnUTF16KeyStringOrderIsUTF16Order", spec := "fnUTF16KeyStringOrderIsUTF16Order", make := .lifted ["publicsums"], apart := false }
def FnUTF16KeyStringOrderIsUTF16OrderSaid : Prop := fnUTF16KeyStringOrderIsUTF16OrderRow.holds Trym.pinned (OpenSpec.ofChange fnUTF16KeyStringOrderIsUTF16OrderSpec)

/-- ITS FALSE NEIGHBOUR: 'it returns false'. Refute it at one input. -/
def fnUTF16KeyStringOrderIsUTF16OrderWrong : ChangeSpec := { name := "fnUTF16KeyStringOrderIsUTF16Order", fn := fun _ => fun
  | [d1, d2] => { results := [.lit (.bool false)], args := [d1, d2] }
  | _ => none }
def FnUTF16KeyStringOrderIsUTF16OrderWrongFalsely : Prop := fnUTF16KeyStringOrderIsUTF16OrderRow.holds Trym.pinned (OpenSpec.ofChange fnUTF16KeyStringOrderIsUTF16OrderWrong)

/-- 'zzlaws_root_b1.FnFirstFaultFoldIsHighestRanked': WHATEVER THE INPUT: true; the input reads as it did. -/
def fnFirstFaultFoldIsHighestRankedSpec : ChangeSpec := { name := "fnFirstFaultFoldIsHighestRanked", fn := fun _ => fun
  | [d] => { results := [.lit (.bool true)], args := [d] }
  | _ => none }
def fnFirstFaultFoldIsHighestRankedRow : OpenClaim := { program := "qxb6618147amods", sum := "41ba4f737baad7fa9138d7ef37f482e58a4d9fc57dbc1eaae5976baffa29abc3", func := "example.com/provizo/provizo/zzlaws_root_b1.FnFirstFaultFoldIsHighestRanked", spec := "fnFirstFaultFoldIsHighestRanked", make := .lifted ["publicsums"], apart := false }
def FnFirstFaultFoldIsHighestRankedSaid : Prop := fnFirstFaultFoldIsHighestRankedRow.holds Trym.pinned (OpenSpec.ofChange fnFirstFaultFoldIsHighestRankedSpec)

/-- ITS FALSE NEIGHBOUR: 'it returns false'. Refute it at one input. -/
def fnFirstFaultFoldIsHighestRankedWrong : ChangeSpec := { name := "fnFirstFaultFoldIsHighestRanked", fn := fun _ => fun
  | [d] => { results := [.lit (.bool false)], args := [d] }
  | _ => none }
def FnFirstFaultFoldIsHighestRankedWrongFalsely : Prop := fnFirstFaultFoldIsHighestRankedRow.holds Trym.pinned (OpenSpec.ofChange fnFirstFaultFoldIsHighestRankedWrong)

/-- 'zzlaws_root_b1.FnFirstFaultOrderFreeAndPicksPresent': WHATEVER THE INPUT: true; the input reads as it did. -/
def fnFirstFaultOrderFreeAndPicksPresentSpec : ChangeSpec := { name := "fnFirstFaultOrderFreeAndPicksPresent", fn := fun _ => fun
  | [d1, d2] => { results := [.lit (.bool true)], args := [d1, d2] }
  | _ => none }
def fnFirstFaultOrderFreeAndPicksPresentRow : OpenClaim := { program := "qxb6618147amods", sum := "41ba4f737baad7fa9138d7ef37f482e58a4d9fc57dbc1eaae5976baffa29abc3", func := "example.com/provizo/provizo/zzlaws_root_b1.FnFirstFaultOrderFreeAndPicksPresent", spec := "fnFirstFaultOrderFreeAndPicksPresent", make := .lifted ["publicsums"], apart := false }
def FnFirstFaultOrderFreeAndPicksPresentSaid : Prop := fnFirstFaultOrderFreeAndPicksPresentRow.holds Trym.pinned (OpenSpec.ofChange fnFirstFaultOrderFreeAndPicksPresentSpec)

/-- ITS FALSE NEIGHBOUR: 'it returns false'. Refute it at one input. -/
def fnFirstFaultOrderFreeAndPicksPresentWrong : ChangeSpec := { name := "fnFirstFaultOrderFreeAndPicksPresent", fn := fun _ => fun
  | [d1, d2] => { results := [.lit (.bool false)], args := [d1, d2] }
  | _ => none }
def FnFirstFaultOrderFreeAndPicksPresentWrongFalsely : Prop := fnFirstFaultOrderFreeAndPicksPresentRow.holds Trym.pinned (OpenSpec.ofChange fnFirstFaultOrderFreeAndPicksPresentWrong)

end Rows
end Go.Proofs.Qxb6618147aMods
