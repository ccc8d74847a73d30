/-
  No cell of these rows narrows 'for every input' (looked for: loops, veiled, ifaces, maps, wideKeys, modest, calm, conditions, laid).
  DERIVED. THE GIVEN ROWS OF THIS SEAT. 1 by the template 'for every input the law returns true; each argument reads behind the call as it read before'; 0 by the template 'total and deterministic' (their statements: Qxb6617533aTotals.lean).
  GIVEN WITH THE SEED: the statements are not yours to turn. If you find one false, say at which input.
  Laid BY PROGRAM, IN A SANDBOX (cutbox-rows.mjs): the forced cells as the released guide's own fill.sh prints them over the translation aa86e6ca2df3e58d… (all of the seat's roots in one cut). By AI agents, Wed Nov 11 2026. No macro, syntax, notation, axiom, sorry.
-/
import Derived.Test.Qxb6617533aChecked
import GoSem.Claim
import GoSem.ClaimJoined
import GoSem.ClaimMapViews
import Derived.JoinedTies
import Derived.KernelRfl
namespace Go.Proofs.Qxb6617533a
/- THE CELL 'sum', in the pinned program and in every row, IS THE sha256 OF THE DUMP (.gsa) THAT Qxb6617533aProg.lean LOADS. Nothing in Lean hashes anything: it is a label: what it is worth is what the hold of that sum in a sandbox is worth. -/
noncomputable def Try.pinned : Pinned := { name := "qxb6617533a", sum := "aa86e6ca2df3e58de22747ef71e420fd243ce269420cda14668f0ab669e2b349", checked := Try.checked }
namespace Rows
def none {H : Type} : Left H := { results := [], args := [] }

/-- 'zzlaws_internal_measure_b1.FnEvenNumeratorMatchesContinuedFractionCoefficients': WHATEVER THE INPUT: true; the input reads as it did. -/
def fnEvenNumeratorMatchesContinuedFractionCoefficientsSpec : ChangeSpec := { name := "fnEvenNumeratorMatchesContinuedFractionCoefficients", fn := fun _ => fun
  | [d1, d2, d3, d4] => { results := [.lit (.bool true)], args := [d1, d2, d3, d4] }
  | _ => none }
def fnEvenNumeratorMatchesContinuedFractionCoefficientsRow : OpenClaim := { program := "qxb6617533a", sum := "aa86e6ca2df3e58de22747ef71e420fd243ce269420cda14668f0ab669e2b349", func := "example.com/slim-fusion/slim-fusion/zzlaws_internal_measure_b1.FnEvenNumeratorMatchesContinuedFractionCoefficients", spec := "fnEvenNumeratorMatchesContinuedFractionCoefficients", apart := false }
def FnEvenNumeratorMatchesContinuedFractionCoefficientsSaid : Prop := fnEvenNumeratorMatchesContinuedFractionCoefficientsRow.holds Try.pinned (OpenSpec.ofChange fnEvenNumeratorMatchesContinuedFractionCoefficientsSpec)

/-- ITS FALSE NEIGHBOUR: 'it returns false'. Refute it at one input. -/
def fnEvenNumeratorMatchesContinuedFractionCoefficientsWrong : ChangeSpec := { name := "fnEvenNumeratorMatchesContinuedFractionCoefficients", fn := fun _ => fun
  | [d1, d2, d3, d4] => { results := [.lit (.bool false)], args := [d1, d2, d3, d4] }
  | _ => none }
def FnEvenNumeratorMatchesContinuedFractionCoefficientsWrongFalsely : Prop := fnEvenNumeratorMatchesContinuedFractionCoefficientsRow.holds Try.pinned (OpenSpec.ofChange fnEvenNumeratorMatchesContinuedFractionCoefficientsWrong)

end Rows
end Go.Proofs.Qxb6617533a
