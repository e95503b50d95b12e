/-
  No cell of these rows narrows 'for every input' (looked for: loops, veiled, ifaces, maps, wideKeys, modest, calm, conditions, laid).
  DERIVED. THE GIVEN ROWS OF THIS SEAT. 4 by the template 'for every input the law returns true; each argument reads behind the call as it read before'; 0 by the template 'total and deterministic' (their statements: Qxb6608981aModsTotals.lean).
  GIVEN WITH THE SEED: the statements are not yours to turn. If you find one false, say at which input.
  Laid BY PROGRAM, IN A SANDBOX (cutbox-rows.mjs): the forced cells as the released guide's own fill.sh prints them over the translation ca3ed0a0ae69e63d… (all of the seat's roots in one cut). By AI agents, Wed Nov 11 2026. No macro, syntax, notation, axiom, sorry.
-/
import Derived.Test.Qxb6608981aModsChecked
import GoSem.Claim
import GoSem.ClaimJoined
import GoSem.ClaimMapViews
import Derived.JoinedTies
import Derived.KernelRfl
namespace Go.Proofs.Qxb6608981aMods
/- THE CELL 'sum', in the pinned program and in every row, IS THE sha256 OF THE DUMP (.gsa) THAT Qxb6608981aModsProg.lean LOADS. Nothing in Lean hashes anything: it is a label: what it is worth is what the hold of that sum in a sandbox is worth. -/
noncomputable def Trym.pinned : Pinned := { name := "qxb6608981amods", sum := "ca3ed0a0ae69e63d31169faeb50becf4a84ced7c210cb5467b48508bb16bcc82", checked := Trym.checked }
namespace Rows
def none {H : Type} : Left H := { results := [], args := [] }

/-- 'zzlaws_pkg_api_v1alpha1_b1.FnCrossRefDeepCopyIntoAgreesWithDeepCopy': WHATEVER THE INPUT: true; the input reads as it did. -/
def fnCrossRefDeepCopyIntoAgreesWithDeepCopySpec : ChangeSpec := { name := "fnCrossRefDeepCopyIntoAgreesWithDeepCopy", fn := fun _ => fun
  | [d1, d2, d3, d4, d5, d6] => { results := [.lit (.bool true)], args := [d1, d2, d3, d4, d5, d6] }
  | _ => none }
def fnCrossRefDeepCopyIntoAgreesWithDeepCopyRow : OpenClaim := { program := "qxb6608981amods", sum := "ca3ed0a0ae69e63d31169faeb50becf4a84ced7c210cb5467b48508bb16bcc82", func := "example.com/coxswain/coxswain/zzlaws_pkg_api_v1alpha1_b1.FnCrossRefDeepCopyIntoAgreesWithDeepCopy", spec := "fnCrossRefDeepCopyIntoAgreesWithDeepCopy", make := .lifted ["publicsums"], apart := false }
def FnCrossRefDeepCopyIntoAgreesWithDeepCopySaid : Prop := fnCrossRefDeepCopyIntoAgreesWithDeepCopyRow.holds Trym.pinned (OpenSpec.ofChange fnCrossRefDeepCopyIntoAgreesWithDeepCopySpec)

/-- ITS FALSE NEIGHBOUR: 'it returns false'. Refute it at one input. -/
def fnCrossRefDeepCopyIntoAgreesWithDeepCopyWrong : ChangeSpec := { name := "fnCrossRefDeepCopyIntoAgreesWithDeepCopy", fn := fun _ => fun
  | [d1, d2, d3, d4, d5, d6] => { results := [.lit (.bool false)], args := [d1, d2, d3, d4, d5, d6] }
  | _ => none }
def FnCrossRefDeepCopyIntoAgreesWithDeepCopyWrongFalsely : Prop := fnCrossRefDeepCopyIntoAgreesWithDeepCopyRow.holds Trym.pinned (OpenSpec.ofChange fnCrossRefDeepCopyIntoAgreesWithDeepCopyWrong)

/-- 'zzlaws_pkg_api_v1alpha1_b1.FnCrossRefCopyChainLastWriteWins': WHATEVER THE INPUT: true; the input reads as it did. -/
def fnCrossRefCopyChainLastWriteWinsSpec : ChangeSpec := { name := "fnCrossRefCopyChainLastWriteWins", fn := fun _ => fun
  | [d1, d2, d3, d4, d5, d6, d7, d8, d9] => { results := [.lit (.bool true)], args := [d1, d2, d3, d4, d5, d6, d7, d8, d9] }
  | _ => none }
def fnCrossRefCopyChainLastWriteWinsRow : OpenClaim := { program := "qxb6608981amods", sum := "ca3ed0a0ae69e63d31169faeb50becf4a84ced7c210cb5467b48508bb16bcc82", func := "example.com/coxswain/coxswain/zzlaws_pkg_api_v1alpha1_b1.FnCrossRefCopyChainLastWriteWins", spec := "fnCrossRefCopyChainLastWriteWins", make := .lifted ["publicsums"], apart := false }
def FnCrossRefCopyChainLastWriteWinsSaid : Prop := fnCrossRefCopyChainLastWriteWinsRow.holds Trym.pinned (OpenSpec.ofChange fnCrossRefCopyChainLastWriteWinsSpec)

/-- ITS FALSE NEIGHBOUR: 'it returns false'. Refute it at one input. -/
def fnCrossRefCopyChainLastWriteWinsWrong : ChangeSpec := { name := "fnCrossRefCopyChainLastWriteWins", fn := fun _ => fun
  | [d1, d2, d3, d4, d5, d6, d7, d8, d9] => { results := [.lit (.bool false)], args := [d1, d2, d3, d4, d5, d6, d7, d8, d9] }
  | _ => none }
def FnCrossRefCopyChainLastWriteWinsWrongFalsely : Prop := fnCrossRefCopyChainLastWriteWinsRow.holds Trym.pinned (OpenSpec.ofChange fnCrossRefCopyChainLastWriteWinsWrong)

/-- 'zzlaws_pkg_api_v1alpha1_b1.FnDriftDeepCopyIsDeepAndEqual': WHATEVER THE INPUT: true; the input reads as it did. -/
def fnDriftDeepCopyIsDeepAndEqualSpec : ChangeSpec := { name := "fnDriftDeepCopyIsDeepAndEqual", fn := fun _ => fun
  | [d] => { results := [.lit (.bool true)], args := [d] }
  | _ => none }
def fnDriftDeepCopyIsDeepAndEqualRow : OpenClaim := { program := "qxb6608981amods", sum := "ca3ed0a0ae69e63d31169faeb50becf4a84ced7c210cb5467b48508bb16bcc82", func := "example.com/coxswain/coxswain/zzlaws_pkg_api_v1alpha1_b1.FnDriftDeepCopyIsDeepAndEqual", spec := "fnDriftDeepCopyIsDeepAndEqual", make := .lifted ["publicsums"], apart := false }
def FnDriftDeepCopyIsDeepAndEqualSaid : Prop := fnDriftDeepCopyIsDeepAndEqualRow.holds Trym.pinned (OpenSpec.ofChange fnDriftDeepCopyIsDeepAndEqualSpec)

/-- ITS FALSE NEIGHBOUR: 'it returns false'. Refute it at one input. -/
def fnDriftDeepCopyIsDeepAndEqualWrong : ChangeSpec := { name := "fnDriftDeepCopyIsDeepAndEqual", fn := fun _ => fun
  | [d] => { results := [.lit (.bool false)], args := [d] }
  | _ => none }
def FnDriftDeepCopyIsDeepAndEqualWrongFalsely : Prop := fnDriftDeepCopyIsDeepAndEqualRow.holds Trym.pinned (OpenSpec.ofChange fnDriftDeepCopyIsDeepAndEqualWrong)

/-- 'zzlaws_pkg_api_v1alpha1_b1.FnDriftDeepCopyAgreesWithDeepCopyIntoOverDirtyOut': WHATEVER THE INPUT: true; the input reads as it did. -/
def fnDriftDeepCopyAgreesWithDeepCopyIntoOverDirtyOutSpec : ChangeSpec := { name := "fnDriftDeepCopyAgreesWithDeepCopyIntoOverDirtyOut", fn := fun _ => fun
  | [d1, d2] => { results := [.lit (.bool true)], args := [d1, d2] }
  | _ => none }
def fnDriftDeepCopyAgreesWithDeepCopyIntoOverDirtyOutRow : OpenClaim := { program := "qxb6608981amods", sum := "ca3ed0a0ae69e63d31169faeb50becf4a84ced7c210cb5467b48508bb16bcc82", func := "example.com/coxswain/coxswain/zzlaws_pkg_api_v1alpha1_b1.FnDriftDeepCopyAgreesWithDeepCopyIntoOverDirtyOut", spec := "fnDriftDeepCopyAgreesWithDeepCopyIntoOverDirtyOut", make := .lifted ["publicsums"], apart := false }
def FnDriftDeepCopyAgreesWithDeepCopyIntoOverDirtyOutSaid : Prop := fnDriftDeepCopyAgreesWithDeepCopyIntoOverDirtyOutRow.holds Trym.pinned (OpenSpec.ofChange fnDriftDeepCopyAgreesWithDeepCopyIntoOverDirtyOutSpec)

/-- ITS FALSE NEIGHBOUR: 'it returns false'. Refute it at one input. -/
def fnDriftDeepCopyAgreesWithDeepCopyIntoOverDirtyOutWrong : ChangeSpec := { name := "fnDriftDeepCopyAgreesWithDeepCopyIntoOverDirtyOut", fn := fun _ => fun
  | [d1, d2] => { results := [.lit (.bool false)], args := [d1, d2] }
  | _ => none }
def FnDriftDeepCopyAgreesWithDeepCopyIntoOverDirtyOutWrongFalsely : Prop := fnDriftDeepCopyAgreesWithDeepCopyIntoOverDirtyOutRow.holds Trym.pinned (OpenSpec.ofChange fnDriftDeepCopyAgreesWithDeepCopyIntoOverDirtyOutWrong)

end Rows
end Go.Proofs.Qxb6608981aMods
