/-
  No cell of these rows narrows 'for every input' (looked for: loops, veiled, ifaces, maps, wideKeys, modest, calm, conditions, laid).
  DERIVED. THE GIVEN ROWS OF THIS SEAT. 2 by the template 'for every input the law returns true; each argument reads behind the call as it read before'; 0 by the template 'total and deterministic' (their statements: Qxb6618737aModsTotals.lean).
  GIVEN WITH THE SEED: the statements are not yours to turn. If you find one false, say at which input.
  Laid BY PROGRAM, IN A SANDBOX (cutbox-rows.mjs): the forced cells as the released guide's own fill.sh prints them over the translation 9de6759ffd464656… (all of the seat's roots in one cut). By AI agents, Wed Nov 11 2026. No macro, syntax, notation, axiom, sorry.
-/
import Derived.Test.Qxb6618737aModsChecked
import GoSem.Claim
import GoSem.ClaimJoined
import GoSem.ClaimMapViews
import Derived.JoinedTies
import Derived.KernelRfl
namespace Go.Proofs.Qxb6618737aMods
/- THE CELL 'sum', in the pinned program and in every row, IS THE sha256 OF THE DUMP (.gsa) THAT Qxb6618737aModsProg.lean LOADS. Nothing in Lean hashes anything: it is a label: what it is worth is what the hold of that sum in a sandbox is worth. -/
noncomputable def Trym.pinned : Pinned := { name := "qxb6618737amods", sum := "9de6759ffd4646561097732c31b33184833cb08d3d5b2ca14e9b9490321fb3df", checked := Trym.checked }
namespace Rows
def none {H : Type} : Left H := { results := [], args := [] }

/-- 'zzlaws_pkg_repo_b1.FnSameForgottenStandsForItsFile': WHATEVER THE INPUT: true; the input reads as it did. -/
def fnSameForgottenStandsForItsFileSpec : ChangeSpec := { name := "fnSameForgottenStandsForItsFile", fn := fun _ => fun
  | [d1, d2, d3, d4] => { results := [.lit (.bool true)], args := [d1, d2, d3, d4] }
  | _ => none }
def fnSameForgottenStandsForItsFileRow : OpenClaim := { program := "qxb6618737amods", sum := "9de6759ffd4646561097732c31b33184833cb08d3d5b2ca14e9b9490321fb3df", func := "example.com/stowage/stowage/zzlaws_pkg_repo_b1.FnSameForgottenStandsForItsFile", spec := "fnSameForgottenStandsForItsFile", make := .lifted ["publicsums"], apart := false }
def FnSameForgottenStandsForItsFileSaid : Prop := fnSameForgottenStandsForItsFileRow.holds Trym.pinned (OpenSpec.ofChange fnSameForgottenStandsForItsFileSpec)

/-- ITS FALSE NEIGHBOUR: 'it returns false'. Refute it at one input. -/
def fnSameForgottenStandsForItsFileWrong : ChangeSpec := { name := "fnSameForgottenStandsForItsFile", fn := fun _ => fun
  | [d1, d2, d3, d4] => { results := [.lit (.bool false)], args := [d1, d2, d3, d4] }
  | _ => none }
def FnSameForgottenStandsForItsFileWrongFalsely : Prop := fnSameForgottenStandsForItsFileRow.holds Trym.pinned (OpenSpec.ofChange fnSameForgottenStandsForItsFileWrong)

/-- 'zzlaws_pkg_repo_b1.FnSameIsEquivalence': WHATEVER THE INPUT: true; the input reads as it did. -/
def fnSameIsEquivalenceSpec : ChangeSpec := { name := "fnSameIsEquivalence", fn := fun _ => fun
  | [d1, d2, d3, d4, d5, d6] => { results := [.lit (.bool true)], args := [d1, d2, d3, d4, d5, d6] }
  | _ => none }
def fnSameIsEquivalenceRow : OpenClaim := { program := "qxb6618737amods", sum := "9de6759ffd4646561097732c31b33184833cb08d3d5b2ca14e9b9490321fb3df", func := "example.com/stowage/stowage/zzlaws_pkg_repo_b1.FnSameIsEquivalence", spec := "fnSameIsEquivalence", make := .lifted ["publicsums"], apart := false }
def FnSameIsEquivalenceSaid : Prop := fnSameIsEquivalenceRow.holds Trym.pinned (OpenSpec.ofChange fnSameIsEquivalenceSpec)

/-- ITS FALSE NEIGHBOUR: 'it returns false'. Refute it at one input. -/
def fnSameIsEquivalenceWrong : ChangeSpec := { name := "fnSameIsEquivalence", fn := fun _ => fun
  | [d1, d2, d3, d4, d5, d6] => { results := [.lit (.bool false)], args := [d1, d2, d3, d4, d5, d6] }
  | _ => none }
def FnSameIsEquivalenceWrongFalsely : Prop := fnSameIsEquivalenceRow.holds Trym.pinned (OpenSpec.ofChange fnSameIsEquivalenceWrong)

end Rows
end Go.Proofs.Qxb6618737aMods
