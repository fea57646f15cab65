/-
  DERIVED. GIVEN WITH THE SEED: THE CARDS: each row of YtkaelnfhohggeaaDoorRows.lean that lists a variable, with what it lists TIED to the program's text (the seventh form; the later family's looks); each row that meets fmt, with fmt's text TOLD by the authors' own Lean function (tested against real Go, not proved from fmt's source: count such statements apart). THE CARD IS WHAT COUNTS. Prove the row's statement (the work); the ties are given (YtkaelnfhohggeaaDoorTie.lean); close each card by the builder's one call (the guide's Derived/Test/ToyasCard.lean, 'card_holds'). Laid BY PROGRAM, IN A SANDBOX (cutbox-door.mjs). By AI agents, Wed Nov 11 2026. No macro, syntax, notation, axiom, sorry.
-/
import Derived.Test.YtkaelnfhohggeaaDoorRows
import GoSem.ClaimSeven
namespace Go.Proofs.YtkaelnfhohggeaaDoor
namespace Rows

/-- THE TIED CARD OF 'laws.FnCodecs'. -/
def fnCodecsCard : Claim7 := { stood := { row := fnCodecsRow, standIns := [], harness := (true, "ce209458de713dc7c1495d0ddda9f0543de596914d0f3d7be4e96bada46f4947"), looks := true }, kinds := [], alts := [], laidByText := true, laidKinds := [.data, .data, .data, .sentinel, .sentinel, .sentinel, .sentinel, .sentinel], laidTests := true, laidLooks := .later }
def FnCodecsCardSaid : Prop := Claim7.holds Tryd.pinned (.plain (OpenSpec.ofChange fnCodecsSpec)) fnCodecsCard

/-- THE SECOND FORM's CARD OF 'laws.FnCodecs'. -/
def fnCodecsUptoCard : Claim7 := { stood := { row := fnCodecsUptoRow, standIns := [], harness := (true, "ce209458de713dc7c1495d0ddda9f0543de596914d0f3d7be4e96bada46f4947"), looks := true }, kinds := [], alts := [], laidByText := true, laidKinds := [.data, .data, .data, .sentinel, .sentinel, .sentinel, .sentinel, .sentinel], laidTests := true, laidLooks := .later }
def FnCodecsUptoCardSaid : Prop := Claim7.holds Tryd.pinned (.plain (OpenSpec.upto fnCodecsSpec)) fnCodecsUptoCard
end Rows
end Go.Proofs.YtkaelnfhohggeaaDoor
