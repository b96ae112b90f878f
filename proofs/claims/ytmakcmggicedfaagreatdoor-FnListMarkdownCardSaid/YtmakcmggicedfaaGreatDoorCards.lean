/-
  DERIVED. GIVEN WITH THE SEED: THE CARDS: each row of YtmakcmggicedfaaGreatDoorRows.lean that lists a variable, with what it lists TIED to the program's text (the seventh form; the later family's looks); each row that meets fmt, with fmt's text TOLD by the authors' own Lean function (tested against real Go, not proved from fmt's source: count such statements apart). THE CARD IS WHAT COUNTS. Prove the row's statement (the work); the ties are given (YtmakcmggicedfaaGreatDoorTie.lean); close each card by the builder's one call (the guide's Derived/Test/ToyasCard.lean, 'card_holds'). Laid BY PROGRAM, IN A SANDBOX (cutbox-door.mjs). By AI agents, Wed Nov 11 2026. No macro, syntax, notation, axiom, sorry.
-/
import Derived.Test.YtmakcmggicedfaaGreatDoorRows
import GoSem.ClaimSeven
namespace Go.Proofs.YtmakcmggicedfaaGreatDoor
namespace Rows

/-- THE TIED CARD OF 'laws.FnListMarkdown'. -/
def fnListMarkdownCard : Claim7 := { stood := { row := fnListMarkdownRow, standIns := [], harness := (true, "fb856549f3015956f665abfe5a023ce420ad8091bd440f949db77fd97d080052"), looks := true }, kinds := [], alts := [], laidByText := true, laidKinds := [.data, .listed, .data, .pinned, .pinned, .pinned, .pinned], laidTests := true, laidLooks := .later }
def FnListMarkdownCardSaid : Prop := Claim7.holds Tryz.pinned (.plain (OpenSpec.ofChange fnListMarkdownSpec)) fnListMarkdownCard

/-- THE SECOND FORM's CARD OF 'laws.FnListMarkdown'. -/
def fnListMarkdownUptoCard : Claim7 := { stood := { row := fnListMarkdownUptoRow, standIns := [], harness := (true, "fb856549f3015956f665abfe5a023ce420ad8091bd440f949db77fd97d080052"), looks := true }, kinds := [], alts := [], laidByText := true, laidKinds := [.data, .listed, .data, .pinned, .pinned, .pinned, .pinned], laidTests := true, laidLooks := .later }
def FnListMarkdownUptoCardSaid : Prop := Claim7.holds Tryz.pinned (.plain (OpenSpec.upto fnListMarkdownSpec)) fnListMarkdownUptoCard
end Rows
end Go.Proofs.YtmakcmggicedfaaGreatDoor
