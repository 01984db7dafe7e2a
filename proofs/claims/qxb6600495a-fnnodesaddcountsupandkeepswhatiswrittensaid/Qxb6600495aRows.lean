/-
  No cell of these rows narrows 'for every input' (looked for: loops, veiled, ifaces, maps, wideKeys, modest, calm, conditions, laid).
  DERIVED. THE GIVEN ROWS OF THIS SEAT. 5 by the template 'for every input the law returns true; each argument reads behind the call as it read before'; 0 by the template 'total and deterministic' (their statements: Qxb6600495aTotals.lean).
  GIVEN WITH THE SEED: the statements are not yours to turn. If you find one false, say at which input.
  Laid BY PROGRAM, IN A SANDBOX (cutbox-rows.mjs): the forced cells as the released guide's own fill.sh prints them over the translation 1bf6b95fcdab2b25… (all of the seat's roots in one cut). By AI agents, Wed Nov 11 2026. No macro, syntax, notation, axiom, sorry.
-/
import Derived.Test.Qxb6600495aChecked
import GoSem.Claim
import GoSem.ClaimJoined
import GoSem.ClaimMapViews
import Derived.JoinedTies
import Derived.KernelRfl
namespace Go.Proofs.Qxb6600495a
/- THE CELL 'sum', in the pinned program and in every row, IS THE sha256 OF THE DUMP (.gsa) THAT Qxb6600495aProg.lean LOADS. Nothing in Lean hashes anything: it is a label: what it is worth is what the hold of that sum in a sandbox is worth. -/
noncomputable def Try.pinned : Pinned := { name := "qxb6600495a", sum := "1bf6b95fcdab2b25fcbc94e7ea447d2704475e420b679634691ac37a940f021a", checked := Try.checked }
namespace Rows
def none {H : Type} : Left H := { results := [], args := [] }

/-- 'zzlaws_root_b1.FnSurelyFitsMatchesExponentArithmetic': WHATEVER THE INPUT: true; the input reads as it did. -/
def fnSurelyFitsMatchesExponentArithmeticSpec : ChangeSpec := { name := "fnSurelyFitsMatchesExponentArithmetic", fn := fun _ => fun
  | [d1, d2] => { results := [.lit (.bool true)], args := [d1, d2] }
  | _ => none }
def fnSurelyFitsMatchesExponentArithmeticRow : OpenClaim := { program := "qxb6600495a", sum := "1bf6b95fcdab2b25fcbc94e7ea447d2704475e420b679634691ac37a940f021a", func := "example.com/firm-config/firm-config/zzlaws_root_b1.FnSurelyFitsMatchesExponentArithmetic", spec := "fnSurelyFitsMatchesExponentArithmetic", apart := false }
def FnSurelyFitsMatchesExponentArithmeticSaid : Prop := fnSurelyFitsMatchesExponentArithmeticRow.holds Try.pinned (OpenSpec.ofChange fnSurelyFitsMatchesExponentArithmeticSpec)

/-- ITS FALSE NEIGHBOUR: 'it returns false'. Refute it at one input. -/
def fnSurelyFitsMatchesExponentArithmeticWrong : ChangeSpec := { name := "fnSurelyFitsMatchesExponentArithmetic", fn := fun _ => fun
  | [d1, d2] => { results := [.lit (.bool false)], args := [d1, d2] }
  | _ => none }
def FnSurelyFitsMatchesExponentArithmeticWrongFalsely : Prop := fnSurelyFitsMatchesExponentArithmeticRow.holds Try.pinned (OpenSpec.ofChange fnSurelyFitsMatchesExponentArithmeticWrong)

/-- 'zzlaws_root_b1.FnSurelyFitsHoldsForEveryShorterWhole': WHATEVER THE INPUT: true; the input reads as it did. -/
def fnSurelyFitsHoldsForEveryShorterWholeSpec : ChangeSpec := { name := "fnSurelyFitsHoldsForEveryShorterWhole", fn := fun _ => fun
  | [d1, d2, d3] => { results := [.lit (.bool true)], args := [d1, d2, d3] }
  | _ => none }
def fnSurelyFitsHoldsForEveryShorterWholeRow : OpenClaim := { program := "qxb6600495a", sum := "1bf6b95fcdab2b25fcbc94e7ea447d2704475e420b679634691ac37a940f021a", func := "example.com/firm-config/firm-config/zzlaws_root_b1.FnSurelyFitsHoldsForEveryShorterWhole", spec := "fnSurelyFitsHoldsForEveryShorterWhole", apart := false }
def FnSurelyFitsHoldsForEveryShorterWholeSaid : Prop := fnSurelyFitsHoldsForEveryShorterWholeRow.holds Try.pinned (OpenSpec.ofChange fnSurelyFitsHoldsForEveryShorterWholeSpec)

/-- ITS FALSE NEIGHBOUR: 'it returns false'. Refute it at one input. -/
def fnSurelyFitsHoldsForEveryShorterWholeWrong : ChangeSpec := { name := "fnSurelyFitsHoldsForEveryShorterWhole", fn := fun _ => fun
  | [d1, d2, d3] => { results := [.lit (.bool false)], args := [d1, d2, d3] }
  | _ => none }
def FnSurelyFitsHoldsForEveryShorterWholeWrongFalsely : Prop := fnSurelyFitsHoldsForEveryShorterWholeRow.holds Try.pinned (OpenSpec.ofChange fnSurelyFitsHoldsForEveryShorterWholeWrong)

/-- 'zzlaws_root_b1.FnSurelyFitsNeverGainsFromALargerExponent': WHATEVER THE INPUT: true; the input reads as it did. -/
def fnSurelyFitsNeverGainsFromALargerExponentSpec : ChangeSpec := { name := "fnSurelyFitsNeverGainsFromALargerExponent", fn := fun _ => fun
  | [d1, d2, d3, d4] => { results := [.lit (.bool true)], args := [d1, d2, d3, d4] }
  | _ => none }
def fnSurelyFitsNeverGainsFromALargerExponentRow : OpenClaim := { program := "qxb6600495a", sum := "1bf6b95fcdab2b25fcbc94e7ea447d2704475e420b679634691ac37a940f021a", func := "example.com/firm-config/firm-config/zzlaws_root_b1.FnSurelyFitsNeverGainsFromALargerExponent", spec := "fnSurelyFitsNeverGainsFromALargerExponent", apart := false }
def FnSurelyFitsNeverGainsFromALargerExponentSaid : Prop := fnSurelyFitsNeverGainsFromALargerExponentRow.holds Try.pinned (OpenSpec.ofChange fnSurelyFitsNeverGainsFromALargerExponentSpec)

/-- ITS FALSE NEIGHBOUR: 'it returns false'. Refute it at one input. -/
def fnSurelyFitsNeverGainsFromALargerExponentWrong : ChangeSpec := { name := "fnSurelyFitsNeverGainsFromALargerExponent", fn := fun _ => fun
  | [d1, d2, d3, d4] => { results := [.lit (.bool false)], args := [d1, d2, d3, d4] }
  | _ => none }
def FnSurelyFitsNeverGainsFromALargerExponentWrongFalsely : Prop := fnSurelyFitsNeverGainsFromALargerExponentRow.holds Try.pinned (OpenSpec.ofChange fnSurelyFitsNeverGainsFromALargerExponentWrong)

/-- 'zzlaws_root_b1.FnNodesAddCountsUpAndKeepsWhatIsWritten': WHATEVER THE INPUT: true; the input reads as it did. -/
def fnNodesAddCountsUpAndKeepsWhatIsWrittenSpec : ChangeSpec := { name := "fnNodesAddCountsUpAndKeepsWhatIsWritten", fn := fun _ => fun
  | [d1, d2] => { results := [.lit (.bool true)], args := [d1, d2] }
  | _ => none }
def fnNodesAddCountsUpAndKeepsWhatIsWrittenRow : OpenClaim := { program := "qxb6600495a", sum := "1bf6b95fcdab2b25fcbc94e7ea447d2704475e420b679634691ac37a940f021a", func := "example.com/firm-config/firm-config/zzlaws_root_b1.FnNodesAddCountsUpAndKeepsWhatIsWritten", spec := "fnNodesAddCountsUpAndKeepsWhatIsWritten", apart := false }
def FnNodesAddCountsUpAndKeepsWhatIsWrittenSaid : Prop := fnNodesAddCountsUpAndKeepsWhatIsWrittenRow.holds Try.pinned (OpenSpec.ofChange fnNodesAddCountsUpAndKeepsWhatIsWrittenSpec)

/-- ITS FALSE NEIGHBOUR: 'it returns false'. Refute it at one input. -/
def fnNodesAddCountsUpAndKeepsWhatIsWrittenWrong : ChangeSpec := { name := "fnNodesAddCountsUpAndKeepsWhatIsWritten", fn := fun _ => fun
  | [d1, d2] => { results := [.lit (.bool false)], args := [d1, d2] }
  | _ => none }
def FnNodesAddCountsUpAndKeepsWhatIsWrittenWrongFalsely : Prop := fnNodesAddCountsUpAndKeepsWhatIsWrittenRow.holds Try.pinned (OpenSpec.ofChange fnNodesAddCountsUpAndKeepsWhatIsWrittenWrong)

/-- 'zzlaws_root_b1.FnNodesChunksGrowByDoublingToFullSize': WHATEVER THE INPUT: true; the input reads as it did. -/
def fnNodesChunksGrowByDoublingToFullSizeSpec : ChangeSpec := { name := "fnNodesChunksGrowByDoublingToFullSize", fn := fun _ => fun
  | [d1, d2] => { results := [.lit (.bool true)], args := [d1, d2] }
  | _ => none }
def fnNodesChunksGrowByDoublingToFullSizeRow : OpenClaim := { program := "qxb6600495a", sum := "1bf6b95fcdab2b25fcbc94e7ea447d2704475e420b679634691ac37a940f021a", func := "example.com/firm-config/firm-config/zzlaws_root_b1.FnNodesChunksGrowByDoublingToFullSize", spec := "fnNodesChunksGrowByDoublingToFullSize", apart := false }
def FnNodesChunksGrowByDoublingToFullSizeSaid : Prop := fnNodesChunksGrowByDoublingToFullSizeRow.holds Try.pinned (OpenSpec.ofChange fnNodesChunksGrowByDoublingToFullSizeSpec)

/-- ITS FALSE NEIGHBOUR: 'it returns false'. Refute it at one input. -/
def fnNodesChunksGrowByDoublingToFullSizeWrong : ChangeSpec := { name := "fnNodesChunksGrowByDoublingToFullSize", fn := fun _ => fun
  | [d1, d2] => { results := [.lit (.bool false)], args := [d1, d2] }
  | _ => none }
def FnNodesChunksGrowByDoublingToFullSizeWrongFalsely : Prop := fnNodesChunksGrowByDoublingToFullSizeRow.holds Try.pinned (OpenSpec.ofChange fnNodesChunksGrowByDoublingToFullSizeWrong)

end Rows
end Go.Proofs.Qxb6600495a
