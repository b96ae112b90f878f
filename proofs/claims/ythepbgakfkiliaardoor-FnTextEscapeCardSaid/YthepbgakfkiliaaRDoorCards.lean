/-
  DERIVED. GIVEN WITH THE SEED: THE CARDS: each row of YthepbgakfkiliaaRDoorRows.lean that lists a variable, with what it lists TIED to the program's text (the seventh form; the later family's looks); each row that meets fmt, with fmt's text TOLD by the authors' own Lean function (tested against real Go, not proved from fmt's source: count such statements apart). THE CARD IS WHAT COUNTS. Prove the row's statement (the work); the ties are given (YthepbgakfkiliaaRDoorTie.lean); close each card by the builder's one call (the guide's Derived/Test/ToyasCard.lean, 'card_holds'). Laid BY PROGRAM, IN A SANDBOX (cutbox-door.mjs). By AI agents, Wed Nov 11 2026. No macro, syntax, notation, axiom, sorry.
-/
import Derived.Test.YthepbgakfkiliaaRDoorRows
import GoSem.ClaimSeven
namespace Go.Proofs.YthepbgakfkiliaaRDoor
namespace Rows

/-- THE TIED CARD OF 'laws.FnTextEscape'. -/
def fnTextEscapeCard : Claim7 := { stood := { row := fnTextEscapeRow, standIns := [], harness := (true, "6cf867de59291281f56fd11670687884b4e5cce1d7bc7646fc5459f68659b3b3"), looks := false }, kinds := [], alts := [], laidByText := true, laidKinds := [.data, .data, .data], laidTests := true, laidLooks := .later }
def FnTextEscapeCardSaid : Prop := Claim7.holds Tryd.pinned (.plain (OpenSpec.ofChange fnTextEscapeSpec)) fnTextEscapeCard

/-- THE TIED CARD OF 'laws.FnCamelWords'. -/
def fnCamelWordsCard : Claim7 := { stood := { row := fnCamelWordsRow, standIns := [], harness := (true, "6cf867de59291281f56fd11670687884b4e5cce1d7bc7646fc5459f68659b3b3"), looks := false }, kinds := [], alts := [], laidByText := true, laidKinds := [.data, .listed, .data, .data, .pinned, .pinned, .pinned, .pinned], laidTests := true, laidLooks := .later }
def FnCamelWordsCardSaid : Prop := Claim7.holds Tryd.pinned (.plain (OpenSpec.ofChange fnCamelWordsSpec)) fnCamelWordsCard

/-- THE TIED CARD OF 'laws.FnTextColorPrint'. -/
def fnTextColorPrintCard : Claim7 := { stood := { row := fnTextColorPrintRow, standIns := [], harness := (true, "6cf867de59291281f56fd11670687884b4e5cce1d7bc7646fc5459f68659b3b3"), looks := false }, kinds := [], alts := [], laidByText := true, laidKinds := [.data, .data, .data], laidTests := true, laidLooks := .later }
def FnTextColorPrintCardSaid : Prop := Claim7.holds Tryd.pinned (.plain (OpenSpec.ofChange fnTextColorPrintSpec)) fnTextColorPrintCard

/-- THE SECOND FORM's CARD OF 'laws.FnTextEscape'. -/
def fnTextEscapeUptoCard : Claim7 := { stood := { row := fnTextEscapeUptoRow, standIns := [], harness := (true, "6cf867de59291281f56fd11670687884b4e5cce1d7bc7646fc5459f68659b3b3"), looks := false }, kinds := [], alts := [], laidByText := true, laidKinds := [.data, .data, .data], laidTests := true, laidLooks := .later }
def FnTextEscapeUptoCardSaid : Prop := Claim7.holds Tryd.pinned (.plain (OpenSpec.upto fnTextEscapeSpec)) fnTextEscapeUptoCard

/-- THE SECOND FORM's CARD OF 'laws.FnCamelWords'. -/
def fnCamelWordsUptoCard : Claim7 := { stood := { row := fnCamelWordsUptoRow, standIns := [], harness := (true, "6cf867de59291281f56fd11670687884b4e5cce1d7bc7646fc5459f68659b3b3"), looks := false }, kinds := [], alts := [], laidByText := true, laidKinds := [.data, .listed, .data, .data, .pinned, .pinned, .pinned, .pinned], laidTests := true, laidLooks := .later }
def FnCamelWordsUptoCardSaid : Prop := Claim7.holds Tryd.pinned (.plain (OpenSpec.upto fnCamelWordsSpec)) fnCamelWordsUptoCard

/-- THE SECOND FORM's CARD OF 'laws.FnTextColorPrint'. -/
def fnTextColorPrintUptoCard : Claim7 := { stood := { row := fnTextColorPrintUptoRow, standIns := [], harness := (true, "6cf867de59291281f56fd11670687884b4e5cce1d7bc7646fc5459f68659b3b3"), looks := false }, kinds := [], alts := [], laidByText := true, laidKinds := [.data, .data, .data], laidTests := true, laidLooks := .later }
def FnTextColorPrintUptoCardSaid : Prop := Claim7.holds Tryd.pinned (.plain (OpenSpec.upto fnTextColorPrintSpec)) fnTextColorPrintUptoCard
end Rows
end Go.Proofs.YthepbgakfkiliaaRDoor
