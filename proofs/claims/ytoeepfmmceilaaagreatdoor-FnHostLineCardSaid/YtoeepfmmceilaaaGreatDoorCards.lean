/-
  DERIVED. GIVEN WITH THE SEED: THE CARDS: each row of YtoeepfmmceilaaaGreatDoorRows.lean that lists a variable, with what it lists TIED to the program's text (the seventh form; the later family's looks); each row that meets fmt, with fmt's text TOLD by the authors' own Lean function (tested against real Go, not proved from fmt's source: count such statements apart). THE CARD IS WHAT COUNTS. Prove the row's statement (the work); the ties are given (YtoeepfmmceilaaaGreatDoorTie.lean); close each card by the builder's one call (the guide's Derived/Test/ToyasCard.lean, 'card_holds'). Laid BY PROGRAM, IN A SANDBOX (cutbox-door.mjs). By AI agents, Wed Nov 11 2026. No macro, syntax, notation, axiom, sorry.
-/
import Derived.Test.YtoeepfmmceilaaaGreatDoorRows
import GoSem.ClaimSeven
namespace Go.Proofs.YtoeepfmmceilaaaGreatDoor
namespace Rows

/-- THE TIED CARD OF 'laws.FnLineRead'. -/
def fnLineReadCard : Claim7 := { stood := { row := fnLineReadRow, standIns := [], harness := (true, "4b61e1954e58a2d28b661b10691aebc225c8c52c18cac63234e0b7468cda06e3"), looks := true }, kinds := [], alts := [], laidByText := true, laidKinds := [.data], laidTests := true, laidLooks := .later }
def FnLineReadCardSaid : Prop := Claim7.holds Tryz.pinned (.plain (OpenSpec.ofChange fnLineReadSpec)) fnLineReadCard

/-- THE TIED CARD OF 'laws.FnNormalized'. -/
def fnNormalizedCard : Claim7 := { stood := { row := fnNormalizedRow, standIns := [], harness := (true, "4b61e1954e58a2d28b661b10691aebc225c8c52c18cac63234e0b7468cda06e3"), looks := true }, kinds := [], alts := [], laidByText := true, laidKinds := [.data], laidTests := true, laidLooks := .later }
def FnNormalizedCardSaid : Prop := Claim7.holds Tryz.pinned (.plain (OpenSpec.ofChange fnNormalizedSpec)) fnNormalizedCard

/-- THE TIED CARD OF 'laws.FnHostsRead'. -/
def fnHostsReadCard : Claim7 := { stood := { row := fnHostsReadRow, standIns := [], harness := (true, "4b61e1954e58a2d28b661b10691aebc225c8c52c18cac63234e0b7468cda06e3"), looks := true }, kinds := [], alts := [], laidByText := true, laidKinds := [.data, .sentinel, .data, .pinned], laidTests := true, laidLooks := .later }
def FnHostsReadCardSaid : Prop := Claim7.holds Tryz.pinned (.plain (OpenSpec.ofChange fnHostsReadSpec)) fnHostsReadCard

/-- THE TIED CARD OF 'laws.FnHostLine'. -/
def fnHostLineCard : Claim7 := { stood := { row := fnHostLineRow, standIns := [], harness := (true, "4b61e1954e58a2d28b661b10691aebc225c8c52c18cac63234e0b7468cda06e3"), looks := true }, kinds := [], alts := [], laidByText := true, laidKinds := [.data], laidTests := true, laidLooks := .later }
def FnHostLineCardSaid : Prop := Claim7.holds Tryz.pinned (.plain (OpenSpec.ofChange fnHostLineSpec)) fnHostLineCard

/-- THE TIED CARD OF 'laws.FnLineWritten'. -/
def fnLineWrittenCard : Claim7 := { stood := { row := fnLineWrittenRow, standIns := [], harness := (true, "4b61e1954e58a2d28b661b10691aebc225c8c52c18cac63234e0b7468cda06e3"), looks := true }, kinds := [], alts := [], laidByText := true, laidKinds := [.sentinel, .data], laidTests := true, laidLooks := .later }
def FnLineWrittenCardSaid : Prop := Claim7.holds Tryz.pinned (.plain (OpenSpec.ofChange fnLineWrittenSpec)) fnLineWrittenCard

/-- THE SECOND FORM's CARD OF 'laws.FnLineRead'. -/
def fnLineReadUptoCard : Claim7 := { stood := { row := fnLineReadUptoRow, standIns := [], harness := (true, "4b61e1954e58a2d28b661b10691aebc225c8c52c18cac63234e0b7468cda06e3"), looks := true }, kinds := [], alts := [], laidByText := true, laidKinds := [.data], laidTests := true, laidLooks := .later }
def FnLineReadUptoCardSaid : Prop := Claim7.holds Tryz.pinned (.plain (OpenSpec.upto fnLineReadSpec)) fnLineReadUptoCard

/-- THE SECOND FORM's CARD OF 'laws.FnNormalized'. -/
def fnNormalizedUptoCard : Claim7 := { stood := { row := fnNormalizedUptoRow, standIns := [], harness := (true, "4b61e1954e58a2d28b661b10691aebc225c8c52c18cac63234e0b7468cda06e3"), looks := true }, kinds := [], alts := [], laidByText := true, laidKinds := [.data], laidTests := true, laidLooks := .later }
def FnNormalizedUptoCardSaid : Prop := Claim7.holds Tryz.pinned (.plain (OpenSpec.upto fnNormalizedSpec)) fnNormalizedUptoCard

/-- THE SECOND FORM's CARD OF 'laws.FnHostsRead'. -/
def fnHostsReadUptoCard : Claim7 := { stood := { row := fnHostsReadUptoRow, standIns := [], harness := (true, "4b61e1954e58a2d28b661b10691aebc225c8c52c18cac63234e0b7468cda06e3"), looks := true }, kinds := [], alts := [], laidByText := true, laidKinds := [.data, .sentinel, .data, .pinned], laidTests := true, laidLooks := .later }
def FnHostsReadUptoCardSaid : Prop := Claim7.holds Tryz.pinned (.plain (OpenSpec.upto fnHostsReadSpec)) fnHostsReadUptoCard

/-- THE SECOND FORM's CARD OF 'laws.FnHostLine'. -/
def fnHostLineUptoCard : Claim7 := { stood := { row := fnHostLineUptoRow, standIns := [], harness := (true, "4b61e1954e58a2d28b661b10691aebc225c8c52c18cac63234e0b7468cda06e3"), looks := true }, kinds := [], alts := [], laidByText := true, laidKinds := [.data], laidTests := true, laidLooks := .later }
def FnHostLineUptoCardSaid : Prop := Claim7.holds Tryz.pinned (.plain (OpenSpec.upto fnHostLineSpec)) fnHostLineUptoCard

/-- THE SECOND FORM's CARD OF 'laws.FnLineWritten'. -/
def fnLineWrittenUptoCard : Claim7 := { stood := { row := fnLineWrittenUptoRow, standIns := [], harness := (true, "4b61e1954e58a2d28b661b10691aebc225c8c52c18cac63234e0b7468cda06e3"), looks := true }, kinds := [], alts := [], laidByText := true, laidKinds := [.sentinel, .data], laidTests := true, laidLooks := .later }
def FnLineWrittenUptoCardSaid : Prop := Claim7.holds Tryz.pinned (.plain (OpenSpec.upto fnLineWrittenSpec)) fnLineWrittenUptoCard
end Rows
end Go.Proofs.YtoeepfmmceilaaaGreatDoor
