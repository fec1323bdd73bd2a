/-
  No cell of these rows narrows 'for every input' (looked for: loops, veiled, ifaces, maps, wideKeys, modest, calm, conditions, laid).
  DERIVED. THE GIVEN ROWS OF THIS SEAT. 5 by the template 'for every input the law returns true; each argument reads behind the call as it read before'; 0 by the template 'total and deterministic' (their statements: Qxb6615765aTotals.lean).
  GIVEN WITH THE SEED: the statements are not yours to turn. If you find one false, say at which input.
  Laid BY PROGRAM, IN A SANDBOX (cutbox-rows.mjs): the forced cells as the released guide's own fill.sh prints them over the translation a2f9251ea0fea8ea… (all of the seat's roots in one cut). By AI agents, Wed Nov 11 2026. No macro, syntax, notation, axiom, sorry.
-/
import Derived.Test.Qxb6615765aChecked
import GoSem.Claim
import GoSem.ClaimJoined
import GoSem.ClaimMapViews
import Derived.JoinedTies
import Derived.KernelRfl
namespace Go.Proofs.Qxb6615765a
/- THE CELL 'sum', in the pinned program and in every row, IS THE sha256 OF THE DUMP (.gsa) THAT Qxb6615765aProg.lean LOADS. Nothing in Lean hashes anything: it is a label: what it is worth is what the hold of that sum in a sandbox is worth. -/
noncomputable def Try.pinned : Pinned := { name := "qxb6615765a", sum := "a2f9251ea0fea8eacae376fe0c799f963096c8e6437f3e1af6ba560c2782e34b", checked := Try.checked }
namespace Rows
def none {H : Type} : Left H := { results := [], args := [] }

/-- 'zzlaws_internal_automaton_b1.FnNewBitsetGrowsOneWordPer64Bits': WHATEVER THE INPUT: true; the input reads as it did. -/
def fnNewBitsetGrowsOneWordPer64BitsSpec : ChangeSpec := { name := "fnNewBitsetGrowsOneWordPer64Bits", fn := fun _ => fun
  | [d1, d2] => { results := [.lit (.bool true)], args := [d1, d2] }
  | _ => none }
def fnNewBitsetGrowsOneWordPer64BitsRow : OpenClaim := { program := "qxb6615765a", sum := "a2f9251ea0fea8eacae376fe0c799f963096c8e6437f3e1af6ba560c2782e34b", func := "example.com/lintrex/lintrex/zzlaws_internal_automaton_b1.FnNewBitsetGrowsOneWordPer64Bits", spec := "fnNewBitsetGrowsOneWordPer64Bits", apart := false }
def FnNewBitsetGrowsOneWordPer64BitsSaid : Prop := fnNewBitsetGrowsOneWordPer64BitsRow.holds Try.pinned (OpenSpec.ofChange fnNewBitsetGrowsOneWordPer64BitsSpec)

/-- ITS FALSE NEIGHBOUR: 'it returns false'. Refute it at one input. -/
def fnNewBitsetGrowsOneWordPer64BitsWrong : ChangeSpec := { name := "fnNewBitsetGrowsOneWordPer64Bits", fn := fun _ => fun
  | [d1, d2] => { results := [.lit (.bool false)], args := [d1, d2] }
  | _ => none }
def FnNewBitsetGrowsOneWordPer64BitsWrongFalsely : Prop := fnNewBitsetGrowsOneWordPer64BitsRow.holds Try.pinned (OpenSpec.ofChange fnNewBitsetGrowsOneWordPer64BitsWrong)

/-- 'zzlaws_internal_automaton_b1.FnPairSearchStartOrderFree': WHATEVER THE INPUT: true; the input reads as it did. -/
def fnPairSearchStartOrderFreeSpec : ChangeSpec := { name := "fnPairSearchStartOrderFree", fn := fun _ => fun
  | [d1, d2, d3, d4, d5, d6, d7] => { results := [.lit (.bool true)], args := [d1, d2, d3, d4, d5, d6, d7] }
  | _ => none }
def fnPairSearchStartOrderFreeRow : OpenClaim := { program := "qxb6615765a", sum := "a2f9251ea0fea8eacae376fe0c799f963096c8e6437f3e1af6ba560c2782e34b", func := "example.com/lintrex/lintrex/zzlaws_internal_automaton_b1.FnPairSearchStartOrderFree", spec := "fnPairSearchStartOrderFree", apart := false }
def FnPairSearchStartOrderFreeSaid : Prop := fnPairSearchStartOrderFreeRow.holds Try.pinned (OpenSpec.ofChange fnPairSearchStartOrderFreeSpec)

/-- ITS FALSE NEIGHBOUR: 'it returns false'. Refute it at one input. -/
def fnPairSearchStartOrderFreeWrong : ChangeSpec := { name := "fnPairSearchStartOrderFree", fn := fun _ => fun
  | [d1, d2, d3, d4, d5, d6, d7] => { results := [.lit (.bool false)], args := [d1, d2, d3, d4, d5, d6, d7] }
  | _ => none }
def FnPairSearchStartOrderFreeWrongFalsely : Prop := fnPairSearchStartOrderFreeRow.holds Try.pinned (OpenSpec.ofChange fnPairSearchStartOrderFreeWrong)

/-- 'zzlaws_internal_automaton_b1.FnPairSearchStartTwiceMarksOnce': WHATEVER THE INPUT: true; the input reads as it did. -/
def fnPairSearchStartTwiceMarksOnceSpec : ChangeSpec := { name := "fnPairSearchStartTwiceMarksOnce", fn := fun _ => fun
  | [d1, d2, d3, d4, d5, d6] => { results := [.lit (.bool true)], args := [d1, d2, d3, d4, d5, d6] }
  | _ => none }
def fnPairSearchStartTwiceMarksOnceRow : OpenClaim := { program := "qxb6615765a", sum := "a2f9251ea0fea8eacae376fe0c799f963096c8e6437f3e1af6ba560c2782e34b", func := "example.com/lintrex/lintrex/zzlaws_internal_automaton_b1.FnPairSearchStartTwiceMarksOnce", spec := "fnPairSearchStartTwiceMarksOnce", apart := false }
def FnPairSearchStartTwiceMarksOnceSaid : Prop := fnPairSearchStartTwiceMarksOnceRow.holds Try.pinned (OpenSpec.ofChange fnPairSearchStartTwiceMarksOnceSpec)

/-- ITS FALSE NEIGHBOUR: 'it returns false'. Refute it at one input. -/
def fnPairSearchStartTwiceMarksOnceWrong : ChangeSpec := { name := "fnPairSearchStartTwiceMarksOnce", fn := fun _ => fun
  | [d1, d2, d3, d4, d5, d6] => { results := [.lit (.bool false)], args := [d1, d2, d3, d4, d5, d6] }
  | _ => none }
def FnPairSearchStartTwiceMarksOnceWrongFalsely : Prop := fnPairSearchStartTwiceMarksOnceRow.holds Try.pinned (OpenSpec.ofChange fnPairSearchStartTwiceMarksOnceWrong)

/-- 'zzlaws_internal_automaton_b1.FnAllowsBeforeJoinAndMark': WHATEVER THE INPUT: true; the input reads as it did. -/
def fnAllowsBeforeJoinAndMarkSpec : ChangeSpec := { name := "fnAllowsBeforeJoinAndMark", fn := fun _ => fun
  | [d1, d2, d3] => { results := [.lit (.bool true)], args := [d1, d2, d3] }
  | _ => none }
def fnAllowsBeforeJoinAndMarkRow : OpenClaim := { program := "qxb6615765a", sum := "a2f9251ea0fea8eacae376fe0c799f963096c8e6437f3e1af6ba560c2782e34b", func := "example.com/lintrex/lintrex/zzlaws_internal_automaton_b1.FnAllowsBeforeJoinAndMark", spec := "fnAllowsBeforeJoinAndMark", apart := false }
def FnAllowsBeforeJoinAndMarkSaid : Prop := fnAllowsBeforeJoinAndMarkRow.holds Try.pinned (OpenSpec.ofChange fnAllowsBeforeJoinAndMarkSpec)

/-- ITS FALSE NEIGHBOUR: 'it returns false'. Refute it at one input. -/
def fnAllowsBeforeJoinAndMarkWrong : ChangeSpec := { name := "fnAllowsBeforeJoinAndMark", fn := fun _ => fun
  | [d1, d2, d3] => { results := [.lit (.bool false)], args := [d1, d2, d3] }
  | _ => none }
def FnAllowsBeforeJoinAndMarkWrongFalsely : Prop := fnAllowsBeforeJoinAndMarkRow.holds Try.pinned (OpenSpec.ofChange fnAllowsBeforeJoinAndMarkWrong)

/-- 'zzlaws_internal_automaton_b1.FnAllowsBeforeIgnoresAfterByte': WHATEVER THE INPUT: true; the input reads as it did. -/
def fnAllowsBeforeIgnoresAfterByteSpec : ChangeSpec := { name := "fnAllowsBeforeIgnoresAfterByte", fn := fun _ => fun
  | [d1, d2] => { results := [.lit (.bool true)], args := [d1, d2] }
  | _ => none }
def fnAllowsBeforeIgnoresAfterByteRow : OpenClaim := { program := "qxb6615765a", sum := "a2f9251ea0fea8eacae376fe0c799f963096c8e6437f3e1af6ba560c2782e34b", func := "example.com/lintrex/lintrex/zzlaws_internal_automaton_b1.FnAllowsBeforeIgnoresAfterByte", spec := "fnAllowsBeforeIgnoresAfterByte", apart := false }
def FnAllowsBeforeIgnoresAfterByteSaid : Prop := fnAllowsBeforeIgnoresAfterByteRow.holds Try.pinned (OpenSpec.ofChange fnAllowsBeforeIgnoresAfterByteSpec)

/-- ITS FALSE NEIGHBOUR: 'it returns false'. Refute it at one input. -/
def fnAllowsBeforeIgnoresAfterByteWrong : ChangeSpec := { name := "fnAllowsBeforeIgnoresAfterByte", fn := fun _ => fun
  | [d1, d2] => { results := [.lit (.bool false)], args := [d1, d2] }
  | _ => none }
def FnAllowsBeforeIgnoresAfterByteWrongFalsely : Prop := fnAllowsBeforeIgnoresAfterByteRow.holds Try.pinned (OpenSpec.ofChange fnAllowsBeforeIgnoresAfterByteWrong)

end Rows
end Go.Proofs.Qxb6615765a
