/-
  DERIVED. GIVEN WITH THE SEED: THE CARDS: each row of Qxb6605262aDoorRows.lean that lists a variable, with what it lists TIED to the program's text (the seventh form; the later family's looks); each row that meets fmt, with fmt's text TOLD by the authors' own Lean function (tested against real Go, not proved from fmt's source: count such statements apart). THE CARD IS WHAT COUNTS. Prove the row's statement (the work); the ties are given (Qxb6605262aDoorTie.lean); close each card by the builder's one call (the guide's Derived/Test/ToyasCard.lean, 'card_holds'). Laid BY PROGRAM, IN A SANDBOX (cutbox-door.mjs). By AI agents, Wed Nov 11 2026. No macro, syntax, notation, axiom, sorry.
-/
import Derived.Test.Qxb6605262aDoorRows
import GoSem.ClaimSeven
namespace Go.Proofs.Qxb6605262aDoor
namespace Rows

/-- THE TIED CARD OF 'zzlaws_root_b1.FnValueStringNumberRoundTrip'. -/
def fnValueStringNumberRoundTripCard : Claim7 := { stood := { row := fnValueStringNumberRoundTripRow, standIns := [], harness := (true, "d61ba24d080f84edcfb45536555c597bf10e358746aab5a2093fab6e1facb2ed"), looks := false }, kinds := [], alts := [], laidByText := true, laidKinds := [.data, .data, .data], laidTests := true, laidLooks := .later }
def FnValueStringNumberRoundTripCardSaid : Prop := Claim7.holds Tryd.pinned (.plain (OpenSpec.ofChange fnValueStringNumberRoundTripSpec)) fnValueStringNumberRoundTripCard
end Rows
end Go.Proofs.Qxb6605262aDoor
