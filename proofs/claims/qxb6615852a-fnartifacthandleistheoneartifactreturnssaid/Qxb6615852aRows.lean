/-
  No cell of these rows narrows 'for every input' (looked for: loops, veiled, ifaces, maps, wideKeys, modest, calm, conditions, laid).
  DERIVED. THE GIVEN ROWS OF THIS SEAT. 2 by the template 'for every input the law returns true; each argument reads behind the call as it read before'; 0 by the template 'total and deterministic' (their statements: Qxb6615852aTotals.lean).
  GIVEN WITH THE SEED: the statements are not yours to turn. If you find one false, say at which input.
  Laid BY PROGRAM, IN A SANDBOX (cutbox-rows.mjs): the forced cells as the released guide's own fill.sh prints them over the translation 565f0b2def3a1168… (all of the seat's roots in one cut). By AI agents, Wed Nov 11 2026. No macro, syntax, notation, axiom, sorry.
-/
import Derived.Test.Qxb6615852aChecked
import GoSem.Claim
import GoSem.ClaimJoined
import GoSem.ClaimMapViews
import Derived.JoinedTies
import Derived.KernelRfl
namespace Go.Proofs.Qxb6615852a
/- THE CELL 'sum', in the pinned program and in every row, IS THE sha256 OF THE DUMP (.gsa) THAT Qxb6615852aProg.lean LOADS. Nothing in Lean hashes anything: it is a label: what it is worth is what the hold of that sum in a sandbox is worth. -/
noncomputable def Try.pinned : Pinned := { name := "qxb6615852a", sum := "565f0b2def3a1168160b14f7494cea4fd1418d91d76186b19907deffb33a938f", checked := Try.checked }
namespace Rows
def none {H : Type} : Left H := { results := [], args := [] }

/-- 'zzlaws_internal_csar_b1.FnArtifactFirstMatchAcrossAnyCut': WHATEVER THE INPUT: true; the input reads as it did. -/
def fnArtifactFirstMatchAcrossAnyCutSpec : ChangeSpec := { name := "fnArtifactFirstMatchAcrossAnyCut", fn := fun _ => fun
  | [d1, d2, d3] => { results := [.lit (.bool true)], args := [d1, d2, d3] }
  | _ => none }
def fnArtifactFirstMatchAcrossAnyCutRow : OpenClaim := { program := "qxb6615852a", sum := "565f0b2def3a1168160b14f7494cea4fd1418d91d76186b19907deffb33a938f", func := "example.com/coxswain/coxswain/zzlaws_internal_csar_b1.FnArtifactFirstMatchAcrossAnyCut", spec := "fnArtifactFirstMatchAcrossAnyCut", unfollowed := true, recurses := true, apart := false }
def FnArtifactFirstMatchAcrossAnyCutSaid : Prop := fnArtifactFirstMatchAcrossAnyCutRow.holds Try.pinned (OpenSpec.ofChange fnArtifactFirstMatchAcrossAnyCutSpec)

/-- ITS FALSE NEIGHBOUR: 'it returns false'. Refute it at one input. -/
def fnArtifactFirstMatchAcrossAnyCutWrong : ChangeSpec := { name := "fnArtifactFirstMatchAcrossAnyCut", fn := fun _ => fun
  | [d1, d2, d3] => { results := [.lit (.bool false)], args := [d1, d2, d3] }
  | _ => none }
def FnArtifactFirstMatchAcrossAnyCutWrongFalsely : Prop := fnArtifactFirstMatchAcrossAnyCutRow.holds Try.pinned (OpenSpec.ofChange fnArtifactFirstMatchAcrossAnyCutWrong)

/-- 'zzlaws_internal_csar_b1.FnArtifactHandleIsTheOneArtifactReturns': WHATEVER THE INPUT: true; the input reads as it did. -/
def fnArtifactHandleIsTheOneArtifactReturnsSpec : ChangeSpec := { name := "fnArtifactHandleIsTheOneArtifactReturns", fn := fun _ => fun
  | [d1, d2, d3] => { results := [.lit (.bool true)], args := [d1, d2, d3] }
  | _ => none }
def fnArtifactHandleIsTheOneArtifactReturnsRow : OpenClaim := { program := "qxb6615852a", sum := "565f0b2def3a1168160b14f7494cea4fd1418d91d76186b19907deffb33a938f", func := "example.com/coxswain/coxswain/zzlaws_internal_csar_b1.FnArtifactHandleIsTheOneArtifactReturns", spec := "fnArtifactHandleIsTheOneArtifactReturns", unfollowed := true, recurses := true, apart := false }
def FnArtifactHandleIsTheOneArtifactReturnsSaid : Prop := fnArtifactHandleIsTheOneArtifactReturnsRow.holds Try.pinned (OpenSpec.ofChange fnArtifactHandleIsTheOneArtifactReturnsSpec)

/-- ITS FALSE NEIGHBOUR: 'it returns false'. Refute it at one input. -/
def fnArtifactHandleIsTheOneArtifactReturnsWrong : ChangeSpec := { name := "fnArtifactHandleIsTheOneArtifactReturns", fn := fun _ => fun
  | [d1, d2, d3] => { results := [.lit (.bool false)], args := [d1, d2, d3] }
  | _ => none }
def FnArtifactHandleIsTheOneArtifactReturnsWrongFalsely : Prop := fnArtifactHandleIsTheOneArtifactReturnsRow.holds Try.pinned (OpenSpec.ofChange fnArtifactHandleIsTheOneArtifactReturnsWrong)

end Rows
end Go.Proofs.Qxb6615852a
