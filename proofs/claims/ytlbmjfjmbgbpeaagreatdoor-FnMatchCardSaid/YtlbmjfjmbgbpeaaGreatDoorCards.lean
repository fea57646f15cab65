/-
  DERIVED. GIVEN WITH THE SEED: THE CARDS: each row of YtlbmjfjmbgbpeaaGreatDoorRows.lean that lists a variable, with what it lists TIED to the program's text (the seventh form; the later family's looks); each row that meets fmt, with fmt's text TOLD by the authors' own Lean function (tested against real Go, not proved from fmt's source: count such statements apart). THE CARD IS WHAT COUNTS. Prove the row's statement (the work); the ties are given (YtlbmjfjmbgbpeaaGreatDoorTie.lean); close each card by the builder's one call (the guide's Derived/Test/ToyasCard.lean, 'card_holds'). Laid BY PROGRAM, IN A SANDBOX (cutbox-door.mjs). By AI agents, Wed Nov 11 2026. No macro, syntax, notation, axiom, sorry.
-/
import Derived.Test.YtlbmjfjmbgbpeaaGreatDoorRows
import GoSem.ClaimSeven
namespace Go.Proofs.YtlbmjfjmbgbpeaaGreatDoor
namespace Rows

/-- THE TIED CARD OF 'laws.FnMatch'. -/
def fnMatchCard : Claim7 := { stood := { row := fnMatchRow, standIns := [], harness := (true, "5fdb2fa5fa3a92e92b77a43a094dbe650ff833477728400371d5da9efa0595ca"), looks := true }, kinds := [], alts := [], laidByText := true, laidKinds := [.data, .listed, .data, .data, .data, .pinned, .pinned], laidTests := true, laidLooks := .later }
def FnMatchCardSaid : Prop := Claim7.holds Tryz.pinned (.plain (OpenSpec.ofChange fnMatchSpec)) fnMatchCard

/-- THE TIED CARD OF 'laws.FnTracks'. -/
def fnTracksCard : Claim7 := { stood := { row := fnTracksRow, standIns := [], harness := (true, "5fdb2fa5fa3a92e92b77a43a094dbe650ff833477728400371d5da9efa0595ca"), looks := true }, kinds := [], alts := [], laidByText := true, laidKinds := [.data, .data, .data, .sentinel, .sentinel], laidTests := true, laidLooks := .later }
def FnTracksCardSaid : Prop := Claim7.holds Tryz.pinned (.plain (OpenSpec.ofChange fnTracksSpec)) fnTracksCard

/-- THE SECOND FORM's CARD OF 'laws.FnMatch'. -/
def fnMatchUptoCard : Claim7 := { stood := { row := fnMatchUptoRow, standIns := [], harness := (true, "5fdb2fa5fa3a92e92b77a43a094dbe650ff833477728400371d5da9efa0595ca"), looks := true }, kinds := [], alts := [], laidByText := true, laidKinds := [.data, .listed, .data, .data, .data, .pinned, .pinned], laidTests := true, laidLooks := .later }
def FnMatchUptoCardSaid : Prop := Claim7.holds Tryz.pinned (.plain (OpenSpec.upto fnMatchSpec)) fnMatchUptoCard

/-- THE SECOND FORM's CARD OF 'laws.FnTracks'. -/
def fnTracksUptoCard : Claim7 := { stood := { row := fnTracksUptoRow, standIns := [], harness := (true, "5fdb2fa5fa3a92e92b77a43a094dbe650ff833477728400371d5da9efa0595ca"), looks := true }, kinds := [], alts := [], laidByText := true, laidKinds := [.data, .data, .data, .sentinel, .sentinel], laidTests := true, laidLooks := .later }
def FnTracksUptoCardSaid : Prop := Claim7.holds Tryz.pinned (.plain (OpenSpec.upto fnTracksSpec)) fnTracksUptoCard
end Rows
end Go.Proofs.YtlbmjfjmbgbpeaaGreatDoor
