/-
  DERIVED. GIVEN WITH THE SEED: THE CARDS: each row of YtpddkliglnoaaaaGreatDoorRows.lean that lists a variable, with what it lists TIED to the program's text (the seventh form; the later family's looks); each row that meets fmt, with fmt's text TOLD by the authors' own Lean function (tested against real Go, not proved from fmt's source: count such statements apart). THE CARD IS WHAT COUNTS. Prove the row's statement (the work); the ties are given (YtpddkliglnoaaaaGreatDoorTie.lean); close each card by the builder's one call (the guide's Derived/Test/ToyasCard.lean, 'card_holds'). Laid BY PROGRAM, IN A SANDBOX (cutbox-door.mjs). By AI agents, Wed Nov 11 2026. No macro, syntax, notation, axiom, sorry.
-/
import Derived.Test.YtpddkliglnoaaaaGreatDoorRows
import GoSem.ClaimSeven
namespace Go.Proofs.YtpddkliglnoaaaaGreatDoor
namespace Rows

/-- THE TIED CARD OF 'laws.FnMapBorders'. -/
def fnMapBordersCard : Claim7 := { stood := { row := fnMapBordersRow, standIns := [], harness := (true, "4fd8b6303e59236cac0e68ecb2791beddb5b9afe3478be0016e511cf6bbf8c41"), looks := true }, kinds := [], alts := [], laidByText := true, laidKinds := [.sentinel], laidTests := true, laidLooks := .later }
def FnMapBordersCardSaid : Prop := Claim7.holds Tryz.pinned (.plain (OpenSpec.ofChange fnMapBordersSpec)) fnMapBordersCard

/-- THE SECOND FORM's CARD OF 'laws.FnMapBorders'. -/
def fnMapBordersUptoCard : Claim7 := { stood := { row := fnMapBordersUptoRow, standIns := [], harness := (true, "4fd8b6303e59236cac0e68ecb2791beddb5b9afe3478be0016e511cf6bbf8c41"), looks := true }, kinds := [], alts := [], laidByText := true, laidKinds := [.sentinel], laidTests := true, laidLooks := .later }
def FnMapBordersUptoCardSaid : Prop := Claim7.holds Tryz.pinned (.plain (OpenSpec.upto fnMapBordersSpec)) fnMapBordersUptoCard
end Rows
end Go.Proofs.YtpddkliglnoaaaaGreatDoor
