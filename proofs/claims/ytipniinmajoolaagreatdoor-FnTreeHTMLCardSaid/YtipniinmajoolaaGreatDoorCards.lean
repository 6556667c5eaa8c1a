/-
  DERIVED. GIVEN WITH THE SEED: THE CARDS: each row of YtipniinmajoolaaGreatDoorRows.lean that lists a variable, with what it lists TIED to the program's text (the seventh form; the later family's looks); each row that meets fmt, with fmt's text TOLD by the authors' own Lean function (tested against real Go, not proved from fmt's source: count such statements apart). THE CARD IS WHAT COUNTS. Prove the row's statement (the work); the ties are given (YtipniinmajoolaaGreatDoorTie.lean); close each card by the builder's one call (the guide's Derived/Test/ToyasCard.lean, 'card_holds'). Laid BY PROGRAM, IN A SANDBOX (cutbox-door.mjs). By AI agents, Wed Nov 11 2026. No macro, syntax, notation, axiom, sorry.
-/
import Derived.Test.YtipniinmajoolaaGreatDoorRows
import GoSem.ClaimSeven
namespace Go.Proofs.YtipniinmajoolaaGreatDoor
namespace Rows

/-- THE TIED CARD OF 'laws.FnTreeHTML'. -/
def fnTreeHTMLCard : Claim7 := { stood := { row := fnTreeHTMLRow, standIns := [], harness := (true, "becd532eb75014aa7fae4054f6c4a50a45beff4e86e0c794b9b14d188950aeae"), looks := true }, kinds := [], alts := [], laidByText := true, laidKinds := [.data, .pinned], laidTests := true, laidLooks := .later }
def FnTreeHTMLCardSaid : Prop := Claim7.holds Tryz.pinned (.plain (OpenSpec.ofChange fnTreeHTMLSpec)) fnTreeHTMLCard

/-- THE SECOND FORM's CARD OF 'laws.FnTreeHTML'. -/
def fnTreeHTMLUptoCard : Claim7 := { stood := { row := fnTreeHTMLUptoRow, standIns := [], harness := (true, "becd532eb75014aa7fae4054f6c4a50a45beff4e86e0c794b9b14d188950aeae"), looks := true }, kinds := [], alts := [], laidByText := true, laidKinds := [.data, .pinned], laidTests := true, laidLooks := .later }
def FnTreeHTMLUptoCardSaid : Prop := Claim7.holds Tryz.pinned (.plain (OpenSpec.upto fnTreeHTMLSpec)) fnTreeHTMLUptoCard
end Rows
end Go.Proofs.YtipniinmajoolaaGreatDoor
