/-
  No cell of these rows narrows 'for every input' (looked for: loops, veiled, ifaces, maps, wideKeys, modest, calm, conditions, laid).
  DERIVED. THE GIVEN ROWS OF THIS SEAT. 1 by the template 'for every input the law returns true; each argument reads behind the call as it read before'; 0 by the template 'total and deterministic' (their statements: Qxb6615090aTotals.lean).
  GIVEN WITH THE SEED: the statements are not yours to turn. If you find one false, say at which input.
  Laid BY PROGRAM, IN A SANDBOX (cutbox-rows.mjs): the forced cells as the released guide's own fill.sh prints them over the translation bbc4953b7fc0258e… (all of the seat's roots in one cut). By AI agents, Wed Nov 11 2026. No macro, syntax, notation, axiom, sorry.
-/
import Derived.Test.Qxb6615090aChecked
import GoSem.Claim
import GoSem.ClaimJoined
import GoSem.ClaimMapViews
import Derived.JoinedTies
import Derived.KernelRfl
namespace Go.Proofs.Qxb6615090a
/- THE CELL 'sum', in the pinned program and in every row, IS THE sha256 OF THE DUMP (.gsa) THAT Qxb6615090aProg.lean LOADS. Nothing in Lean hashes anything: it is a label: what it is worth is what the hold of that sum in a sandbox is worth. -/
noncomputable def Try.pinned : Pinned := { name := "qxb6615090a", sum := "bbc4953b7fc0258e364a39485d7b050d7c54fd12336e5c0a78e22d53386d6a6b", checked := Try.checked }
namespace Rows
def none {H : Type} : Left H := { results := [], args := [] }

/-- 'zzlaws_root_b1.FnIsLetterFoldsOntoTheAlphabetAndIsCaseSymmetric': WHATEVER THE INPUT: true; the input reads as it did. -/
def fnIsLetterFoldsOntoTheAlphabetAndIsCaseSymmetricSpec : ChangeSpec := { name := "fnIsLetterFoldsOntoTheAlphabetAndIsCaseSymmetric", fn := fun _ => fun
  | [d] => { results := [.lit (.bool true)], args := [d] }
  | _ => none }
def fnIsLetterFoldsOntoTheAlphabetAndIsCaseSymmetricRow : OpenClaim := { program := "qxb6615090a", sum := "bbc4953b7fc0258e364a39485d7b050d7c54fd12336e5c0a78e22d53386d6a6b", func := "example.com/castwright/castwright/zzlaws_root_b1.FnIsLetterFoldsOntoTheAlphabetAndIsCaseSymmetric", spec := "fnIsLetterFoldsOntoTheAlphabetAndIsCaseSymmetric", apart := false }
def FnIsLetterFoldsOntoTheAlphabetAndIsCaseSymmetricSaid : Prop := fnIsLetterFoldsOntoTheAlphabetAndIsCaseSymmetricRow.holds Try.pinned (OpenSpec.ofChange fnIsLetterFoldsOntoTheAlphabetAndIsCaseSymmetricSpec)

/-- ITS FALSE NEIGHBOUR: 'it returns false'. Refute it at one input. -/
def fnIsLetterFoldsOntoTheAlphabetAndIsCaseSymmetricWrong : ChangeSpec := { name := "fnIsLetterFoldsOntoTheAlphabetAndIsCaseSymmetric", fn := fun _ => fun
  | [d] => { results := [.lit (.bool false)], args := [d] }
  | _ => none }
def FnIsLetterFoldsOntoTheAlphabetAndIsCaseSymmetricWrongFalsely : Prop := fnIsLetterFoldsOntoTheAlphabetAndIsCaseSymmetricRow.holds Try.pinned (OpenSpec.ofChange fnIsLetterFoldsOntoTheAlphabetAndIsCaseSymmetricWrong)

end Rows
end Go.Proofs.Qxb6615090a
