/-
  DERIVED. GIVEN WITH THE SEED: THE CARDS: each row of Qxb6000561aDoorRows.lean that lists a variable, with what it lists TIED to the program's text (the seventh form; the later family's looks); each row that meets fmt, with fmt's text TOLD by the authors' own Lean function (tested against real Go, not proved from fmt's source: count such statements apart). THE CARD IS WHAT COUNTS. Prove the row's statement (the work); the ties are given (Qxb6000561aDoorTie.lean); close each card by the builder's one call (the guide's Derived/Test/ToyasCard.lean, 'card_holds'). Laid BY PROGRAM, IN A SANDBOX (cutbox-door.mjs). By AI agents, Wed Nov 11 2026. No macro, syntax, notation, axiom, sorry.
-/
import Derived.Test.Qxb6000561aDoorRows
import GoSem.ClaimSeven
namespace Go.Proofs.Qxb6000561aDoor
namespace Rows

/-- THE TIED CARD OF 'zzlaws_internal_store_b1.FnKindStringRoundTrip'. -/
def fnKindStringRoundTripCard : Claim7 := { stood := { row := fnKindStringRoundTripRow, standIns := [], harness := (true, "cf0746c13308ec2738fc11202f1e7a35df802dbab2005faf8e6ba88d2edd2b78"), looks := false }, kinds := [], alts := [], laidByText := true, laidKinds := [.data, .data, .data], laidTests := true, laidLooks := .later }
def FnKindStringRoundTripCardSaid : Prop := Claim7.holds Tryd.pinned (.plain (OpenSpec.ofChange fnKindStringRoundTripSpec)) fnKindStringRoundTripCard

/-- THE TIED CARD OF 'zzlaws_internal_store_b1.FnKindStringInjective'. -/
def fnKindStringInjectiveCard : Claim7 := { stood := { row := fnKindStringInjectiveRow, standIns := [], harness := (true, "cf0746c13308ec2738fc11202f1e7a35df802dbab2005faf8e6ba88d2edd2b78"), looks := false }, kinds := [], alts := [], laidByText := true, laidKinds := [.data, .data, .data], laidTests := true, laidLooks := .later }
def FnKindStringInjectiveCardSaid : Prop := Claim7.holds Tryd.pinned (.plain (OpenSpec.ofChange fnKindStringInjectiveSpec)) fnKindStringInjectiveCard

/-- THE TIED CARD OF 'zzlaws_internal_store_b1.FnKindStringPrintable'. -/
def fnKindStringPrintableCard : Claim7 := { stood := { row := fnKindStringPrintableRow, standIns := [], harness := (true, "cf0746c13308ec2738fc11202f1e7a35df802dbab2005faf8e6ba88d2edd2b78"), looks := false }, kinds := [], alts := [], laidByText := true, laidKinds := [.data, .data, .data], laidTests := true, laidLooks := .later }
def FnKindStringPrintableCardSaid : Prop := Claim7.holds Tryd.pinned (.plain (OpenSpec.ofChange fnKindStringPrintableSpec)) fnKindStringPrintableCard
end Rows
end Go.Proofs.Qxb6000561aDoor
