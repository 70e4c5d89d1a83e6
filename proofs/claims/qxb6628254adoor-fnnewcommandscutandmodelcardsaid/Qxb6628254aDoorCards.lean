/-
  DERIVED. GIVEN WITH THE SEED: THE CARDS: each row of Qxb6628254aDoorRows.lean that lists a variable, with what it lists TIED to the program's text (the seventh form; the later family's looks); each row that meets fmt, with fmt's text TOLD by the authors' own Lean function (tested against real Go, not proved from fmt's source: count such statements apart). THE CARD IS WHAT COUNTS. Prove the row's statement (the work); the ties are given (Qxb6628254aDoorTie.lean); close each card by the builder's one call (the guide's Derived/Test/ToyasCard.lean, 'card_holds'). Laid BY PROGRAM, IN A SANDBOX (cutbox-door.mjs). By AI agents, Wed Nov 11 2026. No macro, syntax, notation, axiom, sorry.
-/
import Derived.Test.Qxb6628254aDoorRows
import GoSem.ClaimSeven
namespace Go.Proofs.Qxb6628254aDoor
namespace Rows

/-- THE TIED CARD OF 'zzlaws_internal_guard_b1.FnNewCommandsCutAndModel'. -/
def fnNewCommandsCutAndModelCard : Claim7 := { stood := { row := fnNewCommandsCutAndModelRow, standIns := [], harness := (true, "0ebdd8eb19c8257bc8a92d262f1b27d0e47e1c506ea4d1bd85a367ff85c4eb22"), looks := false }, kinds := [], alts := [], laidByText := true, laidKinds := [.listed, .data], laidTests := true, laidLooks := .later }
def FnNewCommandsCutAndModelCardSaid : Prop := Claim7.holds Tryd.pinned (.plain (OpenSpec.ofChange fnNewCommandsCutAndModelSpec)) fnNewCommandsCutAndModelCard

/-- THE TIED CARD OF 'zzlaws_internal_guard_b1.FnNewCommandsTextRoundTrip'. -/
def fnNewCommandsTextRoundTripCard : Claim7 := { stood := { row := fnNewCommandsTextRoundTripRow, standIns := [], harness := (true, "0ebdd8eb19c8257bc8a92d262f1b27d0e47e1c506ea4d1bd85a367ff85c4eb22"), looks := false }, kinds := [], alts := [], laidByText := true, laidKinds := [.listed, .data], laidTests := true, laidLooks := .later }
def FnNewCommandsTextRoundTripCardSaid : Prop := Claim7.holds Tryd.pinned (.plain (OpenSpec.ofChange fnNewCommandsTextRoundTripSpec)) fnNewCommandsTextRoundTripCard
end Rows
end Go.Proofs.Qxb6628254aDoor
