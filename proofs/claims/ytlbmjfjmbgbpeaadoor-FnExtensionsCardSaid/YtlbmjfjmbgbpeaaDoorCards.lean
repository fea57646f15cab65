/-
  DERIVED. GIVEN WITH THE SEED: THE CARDS: each row of YtlbmjfjmbgbpeaaDoorRows.lean that lists a variable, with what it lists TIED to the program's text (the seventh form; the later family's looks); each row that meets fmt, with fmt's text TOLD by the authors' own Lean function (tested against real Go, not proved from fmt's source: count such statements apart). THE CARD IS WHAT COUNTS. Prove the row's statement (the work); the ties are given (YtlbmjfjmbgbpeaaDoorTie.lean); close each card by the builder's one call (the guide's Derived/Test/ToyasCard.lean, 'card_holds'). Laid BY PROGRAM, IN A SANDBOX (cutbox-door.mjs). By AI agents, Wed Nov 11 2026. No macro, syntax, notation, axiom, sorry.
-/
import Derived.Test.YtlbmjfjmbgbpeaaDoorRows
import GoSem.ClaimSeven
namespace Go.Proofs.YtlbmjfjmbgbpeaaDoor
namespace Rows

/-- THE TIED CARD OF 'laws.FnSame'. -/
def fnSameCard : Claim7 := { stood := { row := fnSameRow, standIns := [], harness := (true, "9cb5a9683bec0e3ab261691f87b664c28daf9f7c0f097fcf1b7144ead324c88f"), looks := true }, kinds := [], alts := [], laidByText := true, laidKinds := [.data, .data, .data, .pinned, .pinned], laidTests := true, laidLooks := .later }
def FnSameCardSaid : Prop := Claim7.holds Tryd.pinned (.plain (OpenSpec.ofChange fnSameSpec)) fnSameCard

/-- THE TIED CARD OF 'laws.FnFlags'. -/
def fnFlagsCard : Claim7 := { stood := { row := fnFlagsRow, standIns := [], harness := (true, "9cb5a9683bec0e3ab261691f87b664c28daf9f7c0f097fcf1b7144ead324c88f"), looks := true }, kinds := [], alts := [], laidByText := true, laidKinds := [.data, .data, .data, .data, .sentinel, .sentinel, .listed, .data, .pinned], laidTests := true, laidLooks := .later }
def FnFlagsCardSaid : Prop := Claim7.holds Tryd.pinned (.plain (OpenSpec.ofChange fnFlagsSpec)) fnFlagsCard

/-- THE TIED CARD OF 'laws.FnParameter'. -/
def fnParameterCard : Claim7 := { stood := { row := fnParameterRow, standIns := [], harness := (true, "9cb5a9683bec0e3ab261691f87b664c28daf9f7c0f097fcf1b7144ead324c88f"), looks := true }, kinds := [], alts := [], laidByText := true, laidKinds := [.data, .listed, .data, .data, .data, .pinned, .pinned], laidTests := true, laidLooks := .later }
def FnParameterCardSaid : Prop := Claim7.holds Tryd.pinned (.plain (OpenSpec.ofChange fnParameterSpec)) fnParameterCard

/-- THE TIED CARD OF 'laws.FnCodecs'. -/
def fnCodecsCard : Claim7 := { stood := { row := fnCodecsRow, standIns := [], harness := (true, "9cb5a9683bec0e3ab261691f87b664c28daf9f7c0f097fcf1b7144ead324c88f"), looks := true }, kinds := [], alts := [], laidByText := true, laidKinds := [.data, .data, .data, .sentinel, .sentinel, .sentinel, .sentinel, .sentinel], laidTests := true, laidLooks := .later }
def FnCodecsCardSaid : Prop := Claim7.holds Tryd.pinned (.plain (OpenSpec.ofChange fnCodecsSpec)) fnCodecsCard

/-- THE TIED CARD OF 'laws.FnParams'. -/
def fnParamsCard : Claim7 := { stood := { row := fnParamsRow, standIns := [], harness := (true, "9cb5a9683bec0e3ab261691f87b664c28daf9f7c0f097fcf1b7144ead324c88f"), looks := true }, kinds := [], alts := [], laidByText := true, laidKinds := [.data, .listed, .data, .pinned, .pinned], laidTests := true, laidLooks := .later }
def FnParamsCardSaid : Prop := Claim7.holds Tryd.pinned (.plain (OpenSpec.ofChange fnParamsSpec)) fnParamsCard

/-- THE TIED CARD OF 'laws.FnExtensions'. -/
def fnExtensionsCard : Claim7 := { stood := { row := fnExtensionsRow, standIns := [], harness := (true, "9cb5a9683bec0e3ab261691f87b664c28daf9f7c0f097fcf1b7144ead324c88f"), looks := true }, kinds := [], alts := [], laidByText := true, laidKinds := [.data, .data, .data, .sentinel, .sentinel, .listed, .data, .sentinel, .sentinel], laidTests := true, laidLooks := .later }
def FnExtensionsCardSaid : Prop := Claim7.holds Tryd.pinned (.plain (OpenSpec.ofChange fnExtensionsSpec)) fnExtensionsCard

/-- THE SECOND FORM's CARD OF 'laws.FnSame'. -/
def fnSameUptoCard : Claim7 := { stood := { row := fnSameUptoRow, standIns := [], harness := (true, "9cb5a9683bec0e3ab261691f87b664c28daf9f7c0f097fcf1b7144ead324c88f"), looks := true }, kinds := [], alts := [], laidByText := true, laidKinds := [.data, .data, .data, .pinned, .pinned], laidTests := true, laidLooks := .later }
def FnSameUptoCardSaid : Prop := Claim7.holds Tryd.pinned (.plain (OpenSpec.upto fnSameSpec)) fnSameUptoCard

/-- THE SECOND FORM's CARD OF 'laws.FnFlags'. -/
def fnFlagsUptoCard : Claim7 := { stood := { row := fnFlagsUptoRow, standIns := [], harness := (true, "9cb5a9683bec0e3ab261691f87b664c28daf9f7c0f097fcf1b7144ead324c88f"), looks := true }, kinds := [], alts := [], laidByText := true, laidKinds := [.data, .data, .data, .data, .sentinel, .sentinel, .listed, .data, .pinned], laidTests := true, laidLooks := .later }
def FnFlagsUptoCardSaid : Prop := Claim7.holds Tryd.pinned (.plain (OpenSpec.upto fnFlagsSpec)) fnFlagsUptoCard

/-- THE SECOND FORM's CARD OF 'laws.FnParameter'. -/
def fnParameterUptoCard : Claim7 := { stood := { row := fnParameterUptoRow, standIns := [], harness := (true, "9cb5a9683bec0e3ab261691f87b664c28daf9f7c0f097fcf1b7144ead324c88f"), looks := true }, kinds := [], alts := [], laidByText := true, laidKinds := [.data, .listed, .data, .data, .data, .pinned, .pinned], laidTests := true, laidLooks := .later }
def FnParameterUptoCardSaid : Prop := Claim7.holds Tryd.pinned (.plain (OpenSpec.upto fnParameterSpec)) fnParameterUptoCard

/-- THE SECOND FORM's CARD OF 'laws.FnCodecs'. -/
def fnCodecsUptoCard : Claim7 := { stood := { row := fnCodecsUptoRow, standIns := [], harness := (true, "9cb5a9683bec0e3ab261691f87b664c28daf9f7c0f097fcf1b7144ead324c88f"), looks := true }, kinds := [], alts := [], laidByText := true, laidKinds := [.data, .data, .data, .sentinel, .sentinel, .sentinel, .sentinel, .sentinel], laidTests := true, laidLooks := .later }
def FnCodecsUptoCardSaid : Prop := Claim7.holds Tryd.pinned (.plain (OpenSpec.upto fnCodecsSpec)) fnCodecsUptoCard

/-- THE SECOND FORM's CARD OF 'laws.FnParams'. -/
def fnParamsUptoCard : Claim7 := { stood := { row := fnParamsUptoRow, standIns := [], harness := (true, "9cb5a9683bec0e3ab261691f87b664c28daf9f7c0f097fcf1b7144ead324c88f"), looks := true }, kinds := [], alts := [], laidByText := true, laidKinds := [.data, .listed, .data, .pinned, .pinned], laidTests := true, laidLooks := .later }
def FnParamsUptoCardSaid : Prop := Claim7.holds Tryd.pinned (.plain (OpenSpec.upto fnParamsSpec)) fnParamsUptoCard

/-- THE SECOND FORM's CARD OF 'laws.FnExtensions'. -/
def fnExtensionsUptoCard : Claim7 := { stood := { row := fnExtensionsUptoRow, standIns := [], harness := (true, "9cb5a9683bec0e3ab261691f87b664c28daf9f7c0f097fcf1b7144ead324c88f"), looks := true }, kinds := [], alts := [], laidByText := true, laidKinds := [.data, .data, .data, .sentinel, .sentinel, .listed, .data, .sentinel, .sentinel], laidTests := true, laidLooks := .later }
def FnExtensionsUptoCardSaid : Prop := Claim7.holds Tryd.pinned (.plain (OpenSpec.upto fnExtensionsSpec)) fnExtensionsUptoCard
end Rows
end Go.Proofs.YtlbmjfjmbgbpeaaDoor
