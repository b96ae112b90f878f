/-
  DERIVED. GIVEN WITH THE SEED: THE CARDS: each row of YtmadlpclnlbpgaaDoorRows.lean that lists a variable, with what it lists TIED to the program's text (the seventh form; the later family's looks); each row that meets fmt, with fmt's text TOLD by the authors' own Lean function (tested against real Go, not proved from fmt's source: count such statements apart). THE CARD IS WHAT COUNTS. Prove the row's statement (the work); the ties are given (YtmadlpclnlbpgaaDoorTie.lean); close each card by the builder's one call (the guide's Derived/Test/ToyasCard.lean, 'card_holds'). Laid BY PROGRAM, IN A SANDBOX (cutbox-door.mjs). By AI agents, Wed Nov 11 2026. No macro, syntax, notation, axiom, sorry.
-/
import Derived.Test.YtmadlpclnlbpgaaDoorRows
import GoSem.ClaimSeven
namespace Go.Proofs.YtmadlpclnlbpgaaDoor
namespace Rows

/-- THE TIED CARD OF 'laws.FnTitleTwice'. -/
def fnTitleTwiceCard : Claim7 := { stood := { row := fnTitleTwiceRow, standIns := [], harness := (true, "c252480132fc0a593483f52851540b511ebb504f091ed53686de958c6b005619"), looks := true }, kinds := [], alts := [], laidByText := true, laidKinds := [.data, .listed, .data, .pinned, .pinned], laidTests := true, laidLooks := .later }
def FnTitleTwiceCardSaid : Prop := Claim7.holds Tryd.pinned (.plain (OpenSpec.ofChange fnTitleTwiceSpec)) fnTitleTwiceCard

/-- THE TIED CARD OF 'laws.FnIsNumericNot'. -/
def fnIsNumericNotCard : Claim7 := { stood := { row := fnIsNumericNotRow, standIns := [], harness := (true, "c252480132fc0a593483f52851540b511ebb504f091ed53686de958c6b005619"), looks := true }, kinds := [], alts := [], laidByText := true, laidKinds := [.data, .listed, .data, .pinned], laidTests := true, laidLooks := .later }
def FnIsNumericNotCardSaid : Prop := Claim7.holds Tryd.pinned (.plain (OpenSpec.ofChange fnIsNumericNotSpec)) fnIsNumericNotCard

/-- THE TIED CARD OF 'laws.FnBeforeFalls'. -/
def fnBeforeFallsCard : Claim7 := { stood := { row := fnBeforeFallsRow, standIns := [], harness := (true, "c252480132fc0a593483f52851540b511ebb504f091ed53686de958c6b005619"), looks := true }, kinds := [], alts := [], laidByText := true, laidKinds := [.data, .pinned, .pinned], laidTests := true, laidLooks := .later }
def FnBeforeFallsCardSaid : Prop := Claim7.holds Tryd.pinned (.plain (OpenSpec.ofChange fnBeforeFallsSpec)) fnBeforeFallsCard

/-- THE SECOND FORM's CARD OF 'laws.FnTitleTwice'. -/
def fnTitleTwiceUptoCard : Claim7 := { stood := { row := fnTitleTwiceUptoRow, standIns := [], harness := (true, "c252480132fc0a593483f52851540b511ebb504f091ed53686de958c6b005619"), looks := true }, kinds := [], alts := [], laidByText := true, laidKinds := [.data, .listed, .data, .pinned, .pinned], laidTests := true, laidLooks := .later }
def FnTitleTwiceUptoCardSaid : Prop := Claim7.holds Tryd.pinned (.plain (OpenSpec.upto fnTitleTwiceSpec)) fnTitleTwiceUptoCard

/-- THE SECOND FORM's CARD OF 'laws.FnIsNumericNot'. -/
def fnIsNumericNotUptoCard : Claim7 := { stood := { row := fnIsNumericNotUptoRow, standIns := [], harness := (true, "c252480132fc0a593483f52851540b511ebb504f091ed53686de958c6b005619"), looks := true }, kinds := [], alts := [], laidByText := true, laidKinds := [.data, .listed, .data, .pinned], laidTests := true, laidLooks := .later }
def FnIsNumericNotUptoCardSaid : Prop := Claim7.holds Tryd.pinned (.plain (OpenSpec.upto fnIsNumericNotSpec)) fnIsNumericNotUptoCard

/-- THE SECOND FORM's CARD OF 'laws.FnBeforeFalls'. -/
def fnBeforeFallsUptoCard : Claim7 := { stood := { row := fnBeforeFallsUptoRow, standIns := [], harness := (true, "c252480132fc0a593483f52851540b511ebb504f091ed53686de958c6b005619"), looks := true }, kinds := [], alts := [], laidByText := true, laidKinds := [.data, .pinned, .pinned], laidTests := true, laidLooks := .later }
def FnBeforeFallsUptoCardSaid : Prop := Claim7.holds Tryd.pinned (.plain (OpenSpec.upto fnBeforeFallsSpec)) fnBeforeFallsUptoCard
end Rows
end Go.Proofs.YtmadlpclnlbpgaaDoor
