/-
  No cell of these rows narrows 'for every input' (looked for: loops, veiled, ifaces, maps, wideKeys, modest, calm, conditions, laid).
  DERIVED. THE GIVEN ROWS OF THIS SEAT. 1 by the template 'for every input the law returns true; each argument reads behind the call as it read before'; 0 by the template 'total and deterministic' (their statements: Qxb6617512aTotals.lean).
  GIVEN WITH THE SEED: the statements are not yours to turn. If you find one false, say at which input.
  Laid BY PROGRAM, IN A SANDBOX (cutbox-rows.mjs): the forced cells as the released guide's own fill.sh prints them over the translation f468d31956bbcd74… (all of the seat's roots in one cut). By AI agents, Wed Nov 11 2026. No macro, syntax, notation, axiom, sorry.
-/
import Derived.Test.Qxb6617512aChecked
import GoSem.Claim
import GoSem.ClaimJoined
import GoSem.ClaimMapViews
import Derived.JoinedTies
import Derived.KernelRfl
namespace Go.Proofs.Qxb6617512a
/- THE CELL 'sum', in the pinned program and in every row, IS THE sha256 OF THE DUMP (.gsa) THAT Qxb6617512aProg.lean LOADS. Nothing in Lean hashes anything: it is a label: what it is worth is what the hold of that sum in a sandbox is worth. -/
noncomputable def Try.pinned : Pinned := { name := "qxb6617512a", sum := "f468d31956bbcd741ad132519daee25ddec47fc675df9d14f48bcc204a576dd6", checked := Try.checked }
namespace Rows
def none {H : Type} : Left H := { results := [], args := [] }

/-- 'zzlaws_cron_b1.FnHasIsBitMembership': WHATEVER THE INPUT: true; the input reads as it did. -/
def fnHasIsBitMembershipSpec : ChangeSpec := { name := "fnHasIsBitMembership", fn := fun _ => fun
  | [d1, d2] => { results := [.lit (.bool true)], args := [d1, d2] }
  | _ => none }
def fnHasIsBitMembershipRow : OpenClaim := { program := "qxb6617512a", sum := "f468d31956bbcd741ad132519daee25ddec47fc675df9d14f48bcc204a576dd6", func := "example.com/leasewell/leasewell/zzlaws_cron_b1.FnHasIsBitMembership", spec := "fnHasIsBitMembership", apart := false }
def FnHasIsBitMembershipSaid : Prop := fnHasIsBitMembershipRow.holds Try.pinned (OpenSpec.ofChange fnHasIsBitMembershipSpec)

/-- ITS FALSE NEIGHBOUR: 'it returns false'. Refute it at one input. -/
def fnHasIsBitMembershipWrong : ChangeSpec := { name := "fnHasIsBitMembership", fn := fun _ => fun
  | [d1, d2] => { results := [.lit (.bool false)], args := [d1, d2] }
  | _ => none }
def FnHasIsBitMembershipWrongFalsely : Prop := fnHasIsBitMembershipRow.holds Try.pinned (OpenSpec.ofChange fnHasIsBitMembershipWrong)

end Rows
end Go.Proofs.Qxb6617512a
