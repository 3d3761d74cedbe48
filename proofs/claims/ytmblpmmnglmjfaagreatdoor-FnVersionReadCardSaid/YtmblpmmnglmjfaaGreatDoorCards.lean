/-
  DERIVED. GIVEN WITH THE SEED: THE CARDS: each row of YtmblpmmnglmjfaaGreatDoorRows.lean that lists a variable, with what it lists TIED to the program's text (the seventh form; the later family's looks); each row that meets fmt, with fmt's text TOLD by the authors' own Lean function (tested against real Go, not proved from fmt's source: count such statements apart). THE CARD IS WHAT COUNTS. Prove the row's statement (the work); the ties are given (YtmblpmmnglmjfaaGreatDoorTie.lean); close each card by the builder's one call (the guide's Derived/Test/ToyasCard.lean, 'card_holds'). Laid BY PROGRAM, IN A SANDBOX (cutbox-door.mjs). By AI agents, Wed Nov 11 2026. No macro, syntax, notation, axiom, sorry.
-/
import Derived.Test.YtmblpmmnglmjfaaGreatDoorRows
import GoSem.ClaimSeven
namespace Go.Proofs.YtmblpmmnglmjfaaGreatDoor
namespace Rows

/-- THE TIED CARD OF 'laws.FnVersionRead'. -/
def fnVersionReadCard : Claim7 := { stood := { row := fnVersionReadRow, standIns := [], harness := (true, "f58b1262bf178b28991785861ef2e7e8bd3629fad59bca68ebcb76688c153f6f"), looks := true }, kinds := [], alts := [], laidByText := true, laidKinds := [.sentinel, .sentinel, .sentinel, .data], laidTests := true, laidLooks := .later }
def FnVersionReadCardSaid : Prop := Claim7.holds Tryz.pinned (.plain (OpenSpec.ofChange fnVersionReadSpec)) fnVersionReadCard

/-- THE TIED CARD OF 'laws.FnAgreedOn'. -/
def fnAgreedOnCard : Claim7 := { stood := { row := fnAgreedOnRow, standIns := [], harness := (true, "f58b1262bf178b28991785861ef2e7e8bd3629fad59bca68ebcb76688c153f6f"), looks := true }, kinds := [], alts := [], laidByText := true, laidKinds := [.sentinel, .sentinel, .sentinel, .data], laidTests := true, laidLooks := .later }
def FnAgreedOnCardSaid : Prop := Claim7.holds Tryz.pinned (.plain (OpenSpec.ofChange fnAgreedOnSpec)) fnAgreedOnCard

/-- THE SECOND FORM's CARD OF 'laws.FnVersionRead'. -/
def fnVersionReadUptoCard : Claim7 := { stood := { row := fnVersionReadUptoRow, standIns := [], harness := (true, "f58b1262bf178b28991785861ef2e7e8bd3629fad59bca68ebcb76688c153f6f"), looks := true }, kinds := [], alts := [], laidByText := true, laidKinds := [.sentinel, .sentinel, .sentinel, .data], laidTests := true, laidLooks := .later }
def FnVersionReadUptoCardSaid : Prop := Claim7.holds Tryz.pinned (.plain (OpenSpec.upto fnVersionReadSpec)) fnVersionReadUptoCard

/-- THE SECOND FORM's CARD OF 'laws.FnAgreedOn'. -/
def fnAgreedOnUptoCard : Claim7 := { stood := { row := fnAgreedOnUptoRow, standIns := [], harness := (true, "f58b1262bf178b28991785861ef2e7e8bd3629fad59bca68ebcb76688c153f6f"), looks := true }, kinds := [], alts := [], laidByText := true, laidKinds := [.sentinel, .sentinel, .sentinel, .data], laidTests := true, laidLooks := .later }
def FnAgreedOnUptoCardSaid : Prop := Claim7.holds Tryz.pinned (.plain (OpenSpec.upto fnAgreedOnSpec)) fnAgreedOnUptoCard
end Rows
end Go.Proofs.YtmblpmmnglmjfaaGreatDoor
