/-
  DERIVED. GIVEN WITH THE SEED: THE CARDS: each row of Qxb6601290aDoorRows.lean that lists a variable, with what it lists TIED to the program's text (the seventh form; the later family's looks); each row that meets fmt, with fmt's text TOLD by the authors' own Lean function (tested against real Go, not proved from fmt's source: count such statements apart). THE CARD IS WHAT COUNTS. Prove the row's statement (the work); the ties are given (Qxb6601290aDoorTie.lean); close each card by the builder's one call (the guide's Derived/Test/ToyasCard.lean, 'card_holds'). Laid BY PROGRAM, IN A SANDBOX (cutbox-door.mjs). By AI agents, Wed Nov 11 2026. No macro, syntax, notation, axiom, sorry.
-/
import Derived.Test.Qxb6601290aDoorRows
import GoSem.ClaimSeven
namespace Go.Proofs.Qxb6601290aDoor
namespace Rows

/-- THE TIED CARD OF 'zzlaws_signing_b1.FnMessageParsesBackToItsArguments'. -/
def fnMessageParsesBackToItsArgumentsCard : Claim7 := { stood := { row := fnMessageParsesBackToItsArgumentsRow, standIns := [], harness := (true, "21f2c3ac9519f92792d84629fa59462b76ce92cb2d1f5cc5bc5d8bdef66f8bc4"), looks := false }, kinds := [], alts := [], laidByText := true, laidKinds := [.data, .data, .data], laidTests := true, laidLooks := .later }
def FnMessageParsesBackToItsArgumentsCardSaid : Prop := Claim7.holds Tryd.pinned (.plain (OpenSpec.ofChange fnMessageParsesBackToItsArgumentsSpec)) fnMessageParsesBackToItsArgumentsCard

/-- THE TIED CARD OF 'zzlaws_signing_b1.FnMessageKeepsUTF8ValidityAndHasNoControlBytes'. -/
def fnMessageKeepsUTF8ValidityAndHasNoControlBytesCard : Claim7 := { stood := { row := fnMessageKeepsUTF8ValidityAndHasNoControlBytesRow, standIns := [], harness := (true, "21f2c3ac9519f92792d84629fa59462b76ce92cb2d1f5cc5bc5d8bdef66f8bc4"), looks := false }, kinds := [], alts := [], laidByText := true, laidKinds := [.data, .data, .data], laidTests := true, laidLooks := .later }
def FnMessageKeepsUTF8ValidityAndHasNoControlBytesCardSaid : Prop := Claim7.holds Tryd.pinned (.plain (OpenSpec.ofChange fnMessageKeepsUTF8ValidityAndHasNoControlBytesSpec)) fnMessageKeepsUTF8ValidityAndHasNoControlBytesCard
end Rows
end Go.Proofs.Qxb6601290aDoor
