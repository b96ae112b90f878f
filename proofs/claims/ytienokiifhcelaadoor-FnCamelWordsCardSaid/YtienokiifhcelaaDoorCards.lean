/-
  DERIVED. GIVEN WITH THE SEED: THE CARDS: each row of YtienokiifhcelaaDoorRows.lean that lists a variable, with what it lists TIED to the program's text (the seventh form; the later family's looks); each row that meets fmt, with fmt's text TOLD by the authors' own Lean function (tested against real Go, not proved from fmt's source: count such statements apart). THE CARD IS WHAT COUNTS. Prove the row's statement (the work); the ties are given (YtienokiifhcelaaDoorTie.lean); close each card by the builder's one call (the guide's Derived/Test/ToyasCard.lean, 'card_holds'). Laid BY PROGRAM, IN A SANDBOX (cutbox-door.mjs). By AI agents, Wed Nov 11 2026. No macro, syntax, notation, axiom, sorry.
-/
import Derived.Test.YtienokiifhcelaaDoorRows
import GoSem.ClaimSeven
namespace Go.Proofs.YtienokiifhcelaaDoor
namespace Rows

/-- THE TIED CARD OF 'laws.FnCamelWords'. -/
def fnCamelWordsCard : Claim7 := { stood := { row := fnCamelWordsRow, standIns := [], harness := (true, "c7b13d3ad0184766da94b3ee11dd098c4daac10827f17549da6a930efe591411"), looks := false }, kinds := [], alts := [], laidByText := true, laidKinds := [.data, .listed, .data, .data, .pinned, .pinned, .pinned, .pinned], laidTests := true, laidLooks := .later }
def FnCamelWordsCardSaid : Prop := Claim7.holds Tryd.pinned (.plain (OpenSpec.ofChange fnCamelWordsSpec)) fnCamelWordsCard

/-- THE SECOND FORM's CARD OF 'laws.FnCamelWords'. -/
def fnCamelWordsUptoCard : Claim7 := { stood := { row := fnCamelWordsUptoRow, standIns := [], harness := (true, "c7b13d3ad0184766da94b3ee11dd098c4daac10827f17549da6a930efe591411"), looks := false }, kinds := [], alts := [], laidByText := true, laidKinds := [.data, .listed, .data, .data, .pinned, .pinned, .pinned, .pinned], laidTests := true, laidLooks := .later }
def FnCamelWordsUptoCardSaid : Prop := Claim7.holds Tryd.pinned (.plain (OpenSpec.upto fnCamelWordsSpec)) fnCamelWordsUptoCard
end Rows
end Go.Proofs.YtienokiifhcelaaDoor
