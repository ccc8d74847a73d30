/-
  No cell of these rows narrows 'for every input' (looked for: loops, veiled, ifaces, maps, wideKeys, modest, calm, conditions, laid).
  DERIVED. THE GIVEN ROWS OF THIS SEAT. 1 by the template 'for every input the law returns true; each argument reads behind the call as it read before'; 0 by the template 'total and deterministic' (their statements: Qxb6617559aTotals.lean).
  GIVEN WITH THE SEED: the statements are not yours to turn. If you find one false, say at which input.
  Laid BY PROGRAM, IN A SANDBOX (cutbox-rows.mjs): the forced cells as the released guide's own fill.sh prints them over the translation db7ccf1a35a76a68… (all of the seat's roots in one cut). By AI agents, Wed Nov 11 2026. No macro, syntax, notation, axiom, sorry.
-/
import Derived.Test.Qxb6617559aChecked
import GoSem.Claim
import GoSem.ClaimJoined
import GoSem.ClaimMapViews
import Derived.JoinedTies
import Derived.KernelRfl
namespace Go.Proofs.Qxb6617559a
/- THE CELL 'sum', in the pinned program and in every row, IS THE sha256 OF THE DUMP (.gsa) THAT Qxb6617559aProg.lean LOADS. Nothing in Lean hashes anything: it is a label: what it is worth is what the hold of that sum in a sandbox is worth. -/
noncomputable def Try.pinned : Pinned := { name := "qxb6617559a", sum := "db7ccf1a35a76a6878d9448e932416afe2e807fbe13e11832e467a42b95ad2d7", checked := Try.checked }
namespace Rows
def none {H : Type} : Left H := { results := [], args := [] }

/-- 'zzlaws_pkg_oci_b1.FnReferenceStringReadsBack': WHATEVER THE INPUT: true; the input reads as it did. -/
def fnReferenceStringReadsBackSpec : ChangeSpec := { name := "fnReferenceStringReadsBack", fn := fun _ => fun
  | [d1, d2, d3, d4, d5, d6, d7, d8, d9, d10] => { results := [.lit (.bool true)], args := [d1, d2, d3, d4, d5, d6, d7, d8, d9, d10] }
  | _ => none }
def fnReferenceStringReadsBackRow : OpenClaim := { program := "qxb6617559a", sum := "db7ccf1a35a76a6878d9448e932416afe2e807fbe13e11832e467a42b95ad2d7", func := "example.com/countersign/countersign/zzlaws_pkg_oci_b1.FnReferenceStringReadsBack", spec := "fnReferenceStringReadsBack", apart := false }
def FnReferenceStringReadsBackSaid : Prop := fnReferenceStringReadsBackRow.holds Try.pinned (OpenSpec.ofChange fnReferenceStringReadsBackSpec)

/-- ITS FALSE NEIGHBOUR: 'it returns false'. Refute it at one input. -/
def fnReferenceStringReadsBackWrong : ChangeSpec := { name := "fnReferenceStringReadsBack", fn := fun _ => fun
  | [d1, d2, d3, d4, d5, d6, d7, d8, d9, d10] => { results := [.lit (.bool false)], args := [d1, d2, d3, d4, d5, d6, d7, d8, d9, d10] }
  | _ => none }
def FnReferenceStringReadsBackWrongFalsely : Prop := fnReferenceStringReadsBackRow.holds Try.pinned (OpenSpec.ofChange fnReferenceStringReadsBackWrong)

end Rows
end Go.Proofs.Qxb6617559a
