/-
  DERIVED. GIVEN WITH THE SEED: THE CARDS: each row of YtkaelnfhohggeaaGreatDoorRows.lean that lists a variable, with what it lists TIED to the program's text (the seventh form; the later family's looks); each row that meets fmt, with fmt's text TOLD by the authors' own Lean function (tested against real Go, not proved from fmt's source: count such statements apart). THE CARD IS WHAT COUNTS. Prove the row's statement (the work); the ties are given (YtkaelnfhohggeaaGreatDoorTie.lean); close each card by the builder's one call (the guide's Derived/Test/ToyasCard.lean, 'card_holds'). Laid BY PROGRAM, IN A SANDBOX (cutbox-door.mjs). By AI agents, Wed Nov 11 2026. No macro, syntax, notation, axiom, sorry.
-/
import Derived.Test.YtkaelnfhohggeaaGreatDoorRows
import GoSem.ClaimSeven
namespace Go.Proofs.YtkaelnfhohggeaaGreatDoor
namespace Rows

/-- THE TIED CARD OF 'laws.FnTracks'. -/
def fnTracksCard : Claim7 := { stood := { row := fnTracksRow, standIns := [], harness := (true, "0a324e15ef9303b2c1cfe705608adfba6dc386d0c078d92514b64547703bd957"), looks := true }, kinds := [], alts := [], laidByText := true, laidKinds := [.data, .data, .data, .sentinel, .sentinel], laidTests := true, laidLooks := .later }
def FnTracksCardSaid : Prop := Claim7.holds Tryz.pinned (.plain (OpenSpec.ofChange fnTracksSpec)) fnTracksCard

/-- THE SECOND FORM's CARD OF 'laws.FnTracks'. -/
def fnTracksUptoCard : Claim7 := { stood := { row := fnTracksUptoRow, standIns := [], harness := (true, "0a324e15ef9303b2c1cfe705608adfba6dc386d0c078d92514b64547703bd957"), looks := true }, kinds := [], alts := [], laidByText := true, laidKinds := [.data, .data, .data, .sentinel, .sentinel], laidTests := true, laidLooks := .later }
def FnTracksUptoCardSaid : Prop := Claim7.holds Tryz.pinned (.plain (OpenSpec.upto fnTracksSpec)) fnTracksUptoCard
end Rows
end Go.Proofs.YtkaelnfhohggeaaGreatDoor
