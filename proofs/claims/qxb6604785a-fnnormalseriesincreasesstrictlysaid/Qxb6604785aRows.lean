/-
  No cell of these rows narrows 'for every input' (looked for: loops, veiled, ifaces, maps, wideKeys, modest, calm, conditions, laid).
  DERIVED. THE GIVEN ROWS OF THIS SEAT. 4 by the template 'for every input the law returns true; each argument reads behind the call as it read before'; 0 by the template 'total and deterministic' (their statements: Qxb6604785aTotals.lean).
  GIVEN WITH THE SEED: the statements are not yours to turn. If you find one false, say at which input.
  Laid BY PROGRAM, IN A SANDBOX (cutbox-rows.mjs): the forced cells as the released guide's own fill.sh prints them over the translation 47c79fcbc07086da… (all of the seat's roots in one cut). By AI agents, Wed Nov 11 2026. No macro, syntax, notation, axiom, sorry.
-/
import Derived.Test.Qxb6604785aChecked
import GoSem.Claim
import GoSem.ClaimJoined
import GoSem.ClaimMapViews
import Derived.JoinedTies
import Derived.KernelRfl
namespace Go.Proofs.Qxb6604785a
/- THE CELL 'sum', in the pinned program and in every row, IS THE sha256 OF THE DUMP (.gsa) THAT Qxb6604785aProg.lean LOADS. Nothing in Lean hashes anything: it is a label: what it is worth is what the hold of that sum in a sandbox is worth. -/
noncomputable def Try.pinned : Pinned := { name := "qxb6604785a", sum := "47c79fcbc07086da7b6b7810de9314c9cc840f2d9cf7093720462ad775ca594e", checked := Try.checked }
namespace Rows
def none {H : Type} : Left H := { results := [], args := [] }

/-- 'zzlaws_floatmath_b1.FnTwoProdIsTheExactProductSplitAtItsRounding': WHATEVER THE INPUT: true; the input reads as it did. -/
def fnTwoProdIsTheExactProductSplitAtItsRoundingSpec : ChangeSpec := { name := "fnTwoProdIsTheExactProductSplitAtItsRounding", fn := fun _ => fun
  | [d1, d2] => { results := [.lit (.bool true)], args := [d1, d2] }
  | _ => none }
def fnTwoProdIsTheExactProductSplitAtItsRoundingRow : OpenClaim := { program := "qxb6604785a", sum := "47c79fcbc07086da7b6b7810de9314c9cc840f2d9cf7093720462ad775ca594e", func := "example.com/evermark/evermark/zzlaws_floatmath_b1.FnTwoProdIsTheExactProductSplitAtItsRounding", spec := "fnTwoProdIsTheExactProductSplitAtItsRounding", apart := false }
def FnTwoProdIsTheExactProductSplitAtItsRoundingSaid : Prop := fnTwoProdIsTheExactProductSplitAtItsRoundingRow.holds Try.pinned (OpenSpec.ofChange fnTwoProdIsTheExactProductSplitAtItsRoundingSpec)

/-- ITS FALSE NEIGHBOUR: 'it returns false'. Refute it at one input. -/
def fnTwoProdIsTheExactProductSplitAtItsRoundingWrong : ChangeSpec := { name := "fnTwoProdIsTheExactProductSplitAtItsRounding", fn := fun _ => fun
  | [d1, d2] => { results := [.lit (.bool false)], args := [d1, d2] }
  | _ => none }
def FnTwoProdIsTheExactProductSplitAtItsRoundingWrongFalsely : Prop := fnTwoProdIsTheExactProductSplitAtItsRoundingRow.holds Try.pinned (OpenSpec.ofChange fnTwoProdIsTheExactProductSplitAtItsRoundingWrong)

/-- 'zzlaws_floatmath_b1.FnHornerPeelsTheFirstCoefficient': WHATEVER THE INPUT: true; the input reads as it did. -/
def fnHornerPeelsTheFirstCoefficientSpec : ChangeSpec := { name := "fnHornerPeelsTheFirstCoefficient", fn := fun _ => fun
  | [d1, d2] => { results := [.lit (.bool true)], args := [d1, d2] }
  | _ => none }
def fnHornerPeelsTheFirstCoefficientRow : OpenClaim := { program := "qxb6604785a", sum := "47c79fcbc07086da7b6b7810de9314c9cc840f2d9cf7093720462ad775ca594e", func := "example.com/evermark/evermark/zzlaws_floatmath_b1.FnHornerPeelsTheFirstCoefficient", spec := "fnHornerPeelsTheFirstCoefficient", apart := false }
def FnHornerPeelsTheFirstCoefficientSaid : Prop := fnHornerPeelsTheFirstCoefficientRow.holds Try.pinned (OpenSpec.ofChange fnHornerPeelsTheFirstCoefficientSpec)

/-- ITS FALSE NEIGHBOUR: 'it returns false'. Refute it at one input. -/
def fnHornerPeelsTheFirstCoefficientWrong : ChangeSpec := { name := "fnHornerPeelsTheFirstCoefficient", fn := fun _ => fun
  | [d1, d2] => { results := [.lit (.bool false)], args := [d1, d2] }
  | _ => none }
def FnHornerPeelsTheFirstCoefficientWrongFalsely : Prop := fnHornerPeelsTheFirstCoefficientRow.holds Try.pinned (OpenSpec.ofChange fnHornerPeelsTheFirstCoefficientWrong)

/-- 'zzlaws_floatmath_b1.FnNormalSeriesIsANormalisedDoubleNoLessThanT': WHATEVER THE INPUT: true; the input reads as it did. -/
def fnNormalSeriesIsANormalisedDoubleNoLessThanTSpec : ChangeSpec := { name := "fnNormalSeriesIsANormalisedDoubleNoLessThanT", fn := fun _ => fun
  | [d] => { results := [.lit (.bool true)], args := [d] }
  | _ => none }
def fnNormalSeriesIsANormalisedDoubleNoLessThanTRow : OpenClaim := { program := "qxb6604785a", sum := "47c79fcbc07086da7b6b7810de9314c9cc840f2d9cf7093720462ad775ca594e", func := "example.com/evermark/evermark/zzlaws_floatmath_b1.FnNormalSeriesIsANormalisedDoubleNoLessThanT", spec := "fnNormalSeriesIsANormalisedDoubleNoLessThanT", apart := false }
def FnNormalSeriesIsANormalisedDoubleNoLessThanTSaid : Prop := fnNormalSeriesIsANormalisedDoubleNoLessThanTRow.holds Try.pinned (OpenSpec.ofChange fnNormalSeriesIsANormalisedDoubleNoLessThanTSpec)

/-- ITS FALSE NEIGHBOUR: 'it returns false'. Refute it at one input. -/
def fnNormalSeriesIsANormalisedDoubleNoLessThanTWrong : ChangeSpec := { name := "fnNormalSeriesIsANormalisedDoubleNoLessThanT", fn := fun _ => fun
  | [d] => { results := [.lit (.bool false)], args := [d] }
  | _ => none }
def FnNormalSeriesIsANormalisedDoubleNoLessThanTWrongFalsely : Prop := fnNormalSeriesIsANormalisedDoubleNoLessThanTRow.holds Try.pinned (OpenSpec.ofChange fnNormalSeriesIsANormalisedDoubleNoLessThanTWrong)

/-- 'zzlaws_floatmath_b1.FnNormalSeriesIncreasesStrictly': WHATEVER THE INPUT: true; the input reads as it did. -/
def fnNormalSeriesIncreasesStrictlySpec : ChangeSpec := { name := "fnNormalSeriesIncreasesStrictly", fn := fun _ => fun
  | [d1, d2] => { results := [.lit (.bool true)], args := [d1, d2] }
  | _ => none }
def fnNormalSeriesIncreasesStrictlyRow : OpenClaim := { program := "qxb6604785a", sum := "47c79fcbc07086da7b6b7810de9314c9cc840f2d9cf7093720462ad775ca594e", func := "example.com/evermark/evermark/zzlaws_floatmath_b1.FnNormalSeriesIncreasesStrictly", spec := "fnNormalSeriesIncreasesStrictly", apart := false }
def FnNormalSeriesIncreasesStrictlySaid : Prop := fnNormalSeriesIncreasesStrictlyRow.holds Try.pinned (OpenSpec.ofChange fnNormalSeriesIncreasesStrictlySpec)

/-- ITS FALSE NEIGHBOUR: 'it returns false'. Refute it at one input. -/
def fnNormalSeriesIncreasesStrictlyWrong : ChangeSpec := { name := "fnNormalSeriesIncreasesStrictly", fn := fun _ => fun
  | [d1, d2] => { results := [.lit (.bool false)], args := [d1, d2] }
  | _ => none }
def FnNormalSeriesIncreasesStrictlyWrongFalsely : Prop := fnNormalSeriesIncreasesStrictlyRow.holds Try.pinned (OpenSpec.ofChange fnNormalSeriesIncreasesStrictlyWrong)

end Rows
end Go.Proofs.Qxb6604785a
