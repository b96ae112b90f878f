/-
  DERIVED. GIVEN WITH THE SEED: THE CARDS: each row of YtmakcmggicedfaaDoorRows.lean that lists a variable, with what it lists TIED to the program's text (the seventh form; the later family's looks); each row that meets fmt, with fmt's text TOLD by the authors' own Lean function (tested against real Go, not proved from fmt's source: count such statements apart). THE CARD IS WHAT COUNTS. Prove the row's statement (the work); the ties are given (YtmakcmggicedfaaDoorTie.lean); close each card by the builder's one call (the guide's Derived/Test/ToyasCard.lean, 'card_holds'). Laid BY PROGRAM, IN A SANDBOX (cutbox-door.mjs). By AI agents, Wed Nov 11 2026. No macro, syntax, notation, axiom, sorry.
-/
import Derived.Test.YtmakcmggicedfaaDoorRows
import GoSem.ClaimSeven
namespace Go.Proofs.YtmakcmggicedfaaDoor
namespace Rows

/-- THE TIED CARD OF 'laws.FnListLines'. -/
def fnListLinesCard : Claim7 := { stood := { row := fnListLinesRow, standIns := [], harness := (true, "57e2bdd55444eb72c52649d50f904c263ad0bd183593c549b949629105c19c12"), looks := true }, kinds := [], alts := [], laidByText := true, laidKinds := [.data, .listed, .data, .pinned, .pinned, .pinned, .pinned], laidTests := true, laidLooks := .later }
def FnListLinesCardSaid : Prop := Claim7.holds Tryd.pinned (.plain (OpenSpec.ofChange fnListLinesSpec)) fnListLinesCard

/-- THE TIED CARD OF 'laws.FnListItems'. -/
def fnListItemsCard : Claim7 := { stood := { row := fnListItemsRow, standIns := [], harness := (true, "57e2bdd55444eb72c52649d50f904c263ad0bd183593c549b949629105c19c12"), looks := true }, kinds := [], alts := [], laidByText := true, laidKinds := [.data, .listed, .data, .pinned, .pinned, .pinned, .pinned], laidTests := true, laidLooks := .later }
def FnListItemsCardSaid : Prop := Claim7.holds Tryd.pinned (.plain (OpenSpec.ofChange fnListItemsSpec)) fnListItemsCard

/-- THE TIED CARD OF 'laws.FnListFigure'. -/
def fnListFigureCard : Claim7 := { stood := { row := fnListFigureRow, standIns := [], harness := (true, "57e2bdd55444eb72c52649d50f904c263ad0bd183593c549b949629105c19c12"), looks := true }, kinds := [], alts := [], laidByText := true, laidKinds := [.data, .listed, .data, .pinned, .pinned, .pinned, .pinned], laidTests := true, laidLooks := .later }
def FnListFigureCardSaid : Prop := Claim7.holds Tryd.pinned (.plain (OpenSpec.ofChange fnListFigureSpec)) fnListFigureCard

/-- THE SECOND FORM's CARD OF 'laws.FnListLines'. -/
def fnListLinesUptoCard : Claim7 := { stood := { row := fnListLinesUptoRow, standIns := [], harness := (true, "57e2bdd55444eb72c52649d50f904c263ad0bd183593c549b949629105c19c12"), looks := true }, kinds := [], alts := [], laidByText := true, laidKinds := [.data, .listed, .data, .pinned, .pinned, .pinned, .pinned], laidTests := true, laidLooks := .later }
def FnListLinesUptoCardSaid : Prop := Claim7.holds Tryd.pinned (.plain (OpenSpec.upto fnListLinesSpec)) fnListLinesUptoCard

/-- THE SECOND FORM's CARD OF 'laws.FnListItems'. -/
def fnListItemsUptoCard : Claim7 := { stood := { row := fnListItemsUptoRow, standIns := [], harness := (true, "57e2bdd55444eb72c52649d50f904c263ad0bd183593c549b949629105c19c12"), looks := true }, kinds := [], alts := [], laidByText := true, laidKinds := [.data, .listed, .data, .pinned, .pinned, .pinned, .pinned], laidTests := true, laidLooks := .later }
def FnListItemsUptoCardSaid : Prop := Claim7.holds Tryd.pinned (.plain (OpenSpec.upto fnListItemsSpec)) fnListItemsUptoCard

/-- THE SECOND FORM's CARD OF 'laws.FnListFigure'. -/
def fnListFigureUptoCard : Claim7 := { stood := { row := fnListFigureUptoRow, standIns := [], harness := (true, "57e2bdd55444eb72c52649d50f904c263ad0bd183593c549b949629105c19c12"), looks := true }, kinds := [], alts := [], laidByText := true, laidKinds := [.data, .listed, .data, .pinned, .pinned, .pinned, .pinned], laidTests := true, laidLooks := .later }
def FnListFigureUptoCardSaid : Prop := Claim7.holds Tryd.pinned (.plain (OpenSpec.upto fnListFigureSpec)) fnListFigureUptoCard
end Rows
end Go.Proofs.YtmakcmggicedfaaDoor
