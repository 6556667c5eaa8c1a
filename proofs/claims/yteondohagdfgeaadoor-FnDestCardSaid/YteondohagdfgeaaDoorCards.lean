/-
  DERIVED. GIVEN WITH THE SEED: THE CARDS: each row of YteondohagdfgeaaDoorRows.lean that lists a variable, with what it lists TIED to the program's text (the seventh form; the later family's looks); each row that meets fmt, with fmt's text TOLD by the authors' own Lean function (tested against real Go, not proved from fmt's source: count such statements apart). THE CARD IS WHAT COUNTS. Prove the row's statement (the work); the ties are given (YteondohagdfgeaaDoorTie.lean); close each card by the builder's one call (the guide's Derived/Test/ToyasCard.lean, 'card_holds'). Laid BY PROGRAM, IN A SANDBOX (cutbox-door.mjs). By AI agents, Wed Nov 11 2026. No macro, syntax, notation, axiom, sorry.
-/
import Derived.Test.YteondohagdfgeaaDoorRows
import GoSem.ClaimSeven
namespace Go.Proofs.YteondohagdfgeaaDoor
namespace Rows

/-- THE TIED CARD OF 'laws.FnUnescape'. -/
def fnUnescapeCard : Claim7 := { stood := { row := fnUnescapeRow, standIns := [], harness := (true, "49da07250701431bfce1021ae905be348a5af0ea3d626b78e25d3214c14ff778"), looks := false }, kinds := [], alts := [], laidByText := true, laidKinds := [.data], laidTests := true, laidLooks := .later }
def FnUnescapeCardSaid : Prop := Claim7.holds Tryd.pinned (.plain (OpenSpec.ofChange fnUnescapeSpec)) fnUnescapeCard

/-- THE TIED CARD OF 'laws.FnDest'. -/
def fnDestCard : Claim7 := { stood := { row := fnDestRow, standIns := [], harness := (true, "49da07250701431bfce1021ae905be348a5af0ea3d626b78e25d3214c14ff778"), looks := false }, kinds := [], alts := [], laidByText := true, laidKinds := [.data], laidTests := true, laidLooks := .later }
def FnDestCardSaid : Prop := Claim7.holds Tryd.pinned (.plain (OpenSpec.ofChange fnDestSpec)) fnDestCard

/-- THE SECOND FORM's CARD OF 'laws.FnUnescape'. -/
def fnUnescapeUptoCard : Claim7 := { stood := { row := fnUnescapeUptoRow, standIns := [], harness := (true, "49da07250701431bfce1021ae905be348a5af0ea3d626b78e25d3214c14ff778"), looks := false }, kinds := [], alts := [], laidByText := true, laidKinds := [.data], laidTests := true, laidLooks := .later }
def FnUnescapeUptoCardSaid : Prop := Claim7.holds Tryd.pinned (.plain (OpenSpec.upto fnUnescapeSpec)) fnUnescapeUptoCard

/-- THE SECOND FORM's CARD OF 'laws.FnDest'. -/
def fnDestUptoCard : Claim7 := { stood := { row := fnDestUptoRow, standIns := [], harness := (true, "49da07250701431bfce1021ae905be348a5af0ea3d626b78e25d3214c14ff778"), looks := false }, kinds := [], alts := [], laidByText := true, laidKinds := [.data], laidTests := true, laidLooks := .later }
def FnDestUptoCardSaid : Prop := Claim7.holds Tryd.pinned (.plain (OpenSpec.upto fnDestSpec)) fnDestUptoCard
end Rows
end Go.Proofs.YteondohagdfgeaaDoor
