/-
  DERIVED. GIVEN WITH THE SEED: THE CARDS: each row of Qxb6627473aDoorRows.lean that lists a variable, with what it lists TIED to the program's text (the seventh form; the later family's looks); each row that meets fmt, with fmt's text TOLD by the authors' own Lean function (tested against real Go, not proved from fmt's source: count such statements apart). THE CARD IS WHAT COUNTS. Prove the row's statement (the work); the ties are given (Qxb6627473aDoorTie.lean); close each card by the builder's one call (the guide's Derived/Test/ToyasCard.lean, 'card_holds'). Laid BY PROGRAM, IN A SANDBOX (cutbox-door.mjs). By AI agents, Wed Nov 11 2026. No macro, syntax, notation, axiom, sorry.
-/
import Derived.Test.Qxb6627473aDoorRows
import GoSem.ClaimSeven
namespace Go.Proofs.Qxb6627473aDoor
namespace Rows

/-- THE TIED CARD OF 'zzlaws_internal_notation_b1.FnOpStringAgreesWithReadForm'. -/
def fnOpStringAgreesWithReadFormCard : Claim7 := { stood := { row := fnOpStringAgreesWithReadFormRow, standIns := [], harness := (true, "7cb0dc84619ea206b6b3bfa26f64c2fdffc985a615186951e38dbcd1eb1926c3"), looks := false }, kinds := [], alts := [], laidByText := true, laidKinds := [.data, .data, .data], laidTests := true, laidLooks := .later }
def FnOpStringAgreesWithReadFormCardSaid : Prop := Claim7.holds Tryd.pinned (.plain (OpenSpec.ofChange fnOpStringAgreesWithReadFormSpec)) fnOpStringAgreesWithReadFormCard

/-- THE TIED CARD OF 'zzlaws_internal_notation_b1.FnOpStringIsInjectiveOnMeaning'. -/
def fnOpStringIsInjectiveOnMeaningCard : Claim7 := { stood := { row := fnOpStringIsInjectiveOnMeaningRow, standIns := [], harness := (true, "7cb0dc84619ea206b6b3bfa26f64c2fdffc985a615186951e38dbcd1eb1926c3"), looks := false }, kinds := [], alts := [], laidByText := true, laidKinds := [.data, .data, .data], laidTests := true, laidLooks := .later }
def FnOpStringIsInjectiveOnMeaningCardSaid : Prop := Claim7.holds Tryd.pinned (.plain (OpenSpec.ofChange fnOpStringIsInjectiveOnMeaningSpec)) fnOpStringIsInjectiveOnMeaningCard
end Rows
end Go.Proofs.Qxb6627473aDoor
