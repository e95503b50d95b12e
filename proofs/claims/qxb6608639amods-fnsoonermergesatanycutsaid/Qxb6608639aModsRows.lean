/-
  No cell of these rows narrows 'for every input' (looked for: loops, veiled, ifaces, maps, wideKeys, modest, calm, conditions, laid).
  DERIVED. THE GIVEN ROWS OF THIS SEAT. 2 by the template 'for every input the law returns true; each argument reads behind the call as it read before'; 0 by the template 'total and deterministic' (their statements: Qxb6608639aModsTotals.lean).
  GIVEN WITH THE SEED: the statements are not yours to turn. If you find one false, say at which input.
  Laid BY PROGRAM, IN A SANDBOX (cutbox-rows.mjs): the forced cells as the released guide's own fill.sh prints them over the translation 9f5a9587f35985ae… (all of the seat's roots in one cut). By AI agents, Wed Nov 11 2026. No macro, syntax, notation, axiom, sorry.
-/
import Derived.Test.Qxb6608639aModsChecked
import GoSem.Claim
import GoSem.ClaimJoined
import GoSem.ClaimMapViews
import Derived.JoinedTies
import Derived.KernelRfl
namespace Go.Proofs.Qxb6608639aMods
/- THE CELL 'sum', in the pinned program and in every row, IS THE sha256 OF THE DUMP (.gsa) THAT Qxb6608639aModsProg.lean LOADS. Nothing in Lean hashes anything: it is a label: what it is worth is what the hold of that sum in a sandbox is worth. -/
noncomputable def Trym.pinned : Pinned := { name := "qxb6608639amods", sum := "9f5a9587f35985ae0ad04eb9efd6027b80fde250a5f39319af2f8c03d3133efd", checked := Trym.checked }
namespace Rows
def none {H : Type} : Left H := { results := [], args := [] }

/-- 'zzlaws_internal_http2_b1.FnSoonerFoldIsEarliest': WHATEVER THE INPUT: true; the input reads as it did. -/
def fnSoonerFoldIsEarliestSpec : ChangeSpec := { name := "fnSoonerFoldIsEarliest", fn := fun _ => fun
  | [d] => { results := [.lit (.bool true)], args := [d] }
  | _ => none }
def fnSoonerFoldIsEarliestRow : OpenClaim := { program := "qxb6608639amods", sum := "9f5a9587f35985ae0ad04eb9efd6027b80fde250a5f39319af2f8c03d3133efd", func := "example.com/lanyard/lanyard/zzlaws_internal_http2_b1.FnSoonerFoldIsEarliest", spec := "fnSoonerFoldIsEarliest", make := .lifted ["publicsums"], apart := false }
def FnSoonerFoldIsEarliestSaid : Prop := fnSoonerFoldIsEarliestRow.holds Trym.pinned (OpenSpec.ofChange fnSoonerFoldIsEarliestSpec)

/-- ITS FALSE NEIGHBOUR: 'it returns false'. Refute it at one input. -/
def fnSoonerFoldIsEarliestWrong : ChangeSpec := { name := "fnSoonerFoldIsEarliest", fn := fun _ => fun
  | [d] => { results := [.lit (.bool false)], args := [d] }
  | _ => none }
def FnSoonerFoldIsEarliestWrongFalsely : Prop := fnSoonerFoldIsEarliestRow.holds Trym.pinned (OpenSpec.ofChange fnSoonerFoldIsEarliestWrong)

/-- 'zzlaws_internal_http2_b1.FnSoonerMergesAtAnyCut': WHATEVER THE INPUT: true; the input reads as it did. -/
def fnSoonerMergesAtAnyCutSpec : ChangeSpec := { name := "fnSoonerMergesAtAnyCut", fn := fun _ => fun
  | [d1, d2] => { results := [.lit (.bool true)], args := [d1, d2] }
  | _ => none }
def fnSoonerMergesAtAnyCutRow : OpenClaim := { program := "qxb6608639amods", sum := "9f5a9587f35985ae0ad04eb9efd6027b80fde250a5f39319af2f8c03d3133efd", func := "example.com/lanyard/lanyard/zzlaws_internal_http2_b1.FnSoonerMergesAtAnyCut", spec := "fnSoonerMergesAtAnyCut", make := .lifted ["publicsums"], apart := false }
def FnSoonerMergesAtAnyCutSaid : Prop := fnSoonerMergesAtAnyCutRow.holds Trym.pinned (OpenSpec.ofChange fnSoonerMergesAtAnyCutSpec)

/-- ITS FALSE NEIGHBOUR: 'it returns false'. Refute it at one input. -/
def fnSoonerMergesAtAnyCutWrong : ChangeSpec := { name := "fnSoonerMergesAtAnyCut", fn := fun _ => fun
  | [d1, d2] => { results := [.lit (.bool false)], args := [d1, d2] }
  | _ => none }
def FnSoonerMergesAtAnyCutWrongFalsely : Prop := fnSoonerMergesAtAnyCutRow.holds Trym.pinned (OpenSpec.ofChange fnSoonerMergesAtAnyCutWrong)

end Rows
end Go.Proofs.Qxb6608639aMods
