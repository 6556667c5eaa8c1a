/-
  DERIVED. GIVEN WITH THE SEED: THE CARDS: each row of YtecccieeikmfeaaDoorRows.lean that lists a variable, with what it lists TIED to the program's text (the seventh form; the later family's looks); each row that meets fmt, with fmt's text TOLD by the authors' own Lean function (tested against real Go, not proved from fmt's source: count such statements apart). THE CARD IS WHAT COUNTS. Prove the row's statement (the work); the ties are given (YtecccieeikmfeaaDoorTie.lean); close each card by the builder's one call (the guide's Derived/Test/ToyasCard.lean, 'card_holds'). Laid BY PROGRAM, IN A SANDBOX (cutbox-door.mjs). By AI agents, Wed Nov 11 2026. No macro, syntax, notation, axiom, sorry.
-/
import Derived.Test.YtecccieeikmfeaaDoorRows
import GoSem.ClaimSeven
namespace Go.Proofs.YtecccieeikmfeaaDoor
namespace Rows

/-- THE TIED CARD OF 'laws.FnEscapeHTML'. -/
def fnEscapeHTMLCard : Claim7 := { stood := { row := fnEscapeHTMLRow, standIns := [], harness := (true, "ed5db947296e494a26394ca709537647f21ce0bd70fd9d64628c0948898a8660"), looks := false }, kinds := [], alts := [], laidByText := true, laidKinds := [.sentinel], laidTests := true, laidLooks := .later }
def FnEscapeHTMLCardSaid : Prop := Claim7.holds Tryd.pinned (.plain (OpenSpec.ofChange fnEscapeHTMLSpec)) fnEscapeHTMLCard

/-- THE SECOND FORM's CARD OF 'laws.FnEscapeHTML'. -/
def fnEscapeHTMLUptoCard : Claim7 := { stood := { row := fnEscapeHTMLUptoRow, standIns := [], harness := (true, "ed5db947296e494a26394ca709537647f21ce0bd70fd9d64628c0948898a8660"), looks := false }, kinds := [], alts := [], laidByText := true, laidKinds := [.sentinel], laidTests := true, laidLooks := .later }
def FnEscapeHTMLUptoCardSaid : Prop := Claim7.holds Tryd.pinned (.plain (OpenSpec.upto fnEscapeHTMLSpec)) fnEscapeHTMLUptoCard
end Rows
end Go.Proofs.YtecccieeikmfeaaDoor
