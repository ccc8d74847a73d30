/-
  DERIVED. GIVEN WITH THE SEED: THE CARDS: each row of Qxb6617572aDoorRows.lean that lists a variable, with what it lists TIED to the program's text (the seventh form; the later family's looks); each row that meets fmt, with fmt's text TOLD by the authors' own Lean function (tested against real Go, not proved from fmt's source: count such statements apart). THE CARD IS WHAT COUNTS. Prove the row's statement (the work); the ties are given (Qxb6617572aDoorTie.lean); close each card by the builder's one call (the guide's Derived/Test/ToyasCard.lean, 'card_holds'). Laid BY PROGRAM, IN A SANDBOX (cutbox-door.mjs). By AI agents, Wed Nov 11 2026. No macro, syntax, notation, axiom, sorry.
-/
import Derived.Test.Qxb6617572aDoorRows
import GoSem.ClaimSeven
namespace Go.Proofs.Qxb6617572aDoor
namespace Rows

/-- THE TIED CARD OF 'zzlaws_sexp_b1.FnAppendAtomTwoAtomsDecodeBack'. -/
def fnAppendAtomTwoAtomsDecodeBackCard : Claim7 := { stood := { row := fnAppendAtomTwoAtomsDecodeBackRow, standIns := [], harness := (true, "fc91f0321ebccf80067e372adc225f38887b4b68813718ec97219194338511ff"), looks := false }, kinds := [], alts := [], laidByText := true, laidKinds := [.data, .data, .data], laidTests := true, laidLooks := .later }
def FnAppendAtomTwoAtomsDecodeBackCardSaid : Prop := Claim7.holds Tryd.pinned (.plain (OpenSpec.ofChange fnAppendAtomTwoAtomsDecodeBackSpec)) fnAppendAtomTwoAtomsDecodeBackCard

/-- THE TIED CARD OF 'zzlaws_sexp_b1.FnAppendAtomPrefixFree'. -/
def fnAppendAtomPrefixFreeCard : Claim7 := { stood := { row := fnAppendAtomPrefixFreeRow, standIns := [], harness := (true, "fc91f0321ebccf80067e372adc225f38887b4b68813718ec97219194338511ff"), looks := false }, kinds := [], alts := [], laidByText := true, laidKinds := [.data, .data, .data], laidTests := true, laidLooks := .later }
def FnAppendAtomPrefixFreeCardSaid : Prop := Claim7.holds Tryd.pinned (.plain (OpenSpec.ofChange fnAppendAtomPrefixFreeSpec)) fnAppendAtomPrefixFreeCard
end Rows
end Go.Proofs.Qxb6617572aDoor
