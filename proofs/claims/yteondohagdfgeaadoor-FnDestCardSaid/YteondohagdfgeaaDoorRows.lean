/-
  NARROWER THAN 'FOR EVERY INPUT', by the rows' own cells (each row's printed sentence says how): FnUnescape: laid · FnDest: laid.
  DERIVED. THE GIVEN ROWS OF THIS SEAT. 2 by the template 'for every input the law returns true; each argument reads behind the call as it read before'; 0 by the template 'total and deterministic' (their statements: YteondohagdfgeaaDoorTotals.lean).
  GIVEN WITH THE SEED: the statements are not yours to turn. If you find one false, say at which input.
  Laid BY PROGRAM, IN A SANDBOX (cutbox-rows.mjs): the forced cells as the released guide's own fill.sh prints them over the translation 28a0f81c2a1d77e1… (all of the seat's roots in one cut). By AI agents, Wed Nov 11 2026. No macro, syntax, notation, axiom, sorry.
-/
import Derived.Test.YteondohagdfgeaaDoorChecked
import GoSem.Claim
import GoSem.ClaimJoined
import GoSem.ClaimMapViews
import Derived.JoinedTies
import Derived.KernelRfl
namespace Go.Proofs.YteondohagdfgeaaDoor
/- THE CELL 'sum', in the pinned program and in every row, IS THE sha256 OF THE DUMP (.gsa) THAT YteondohagdfgeaaDoorProg.lean LOADS. Nothing in Lean hashes anything: it is a label: what it is worth is what the hold of that sum in a sandbox is worth. -/
noncomputable def Tryd.pinned : Pinned := { name := "yteondohagdfgeaadoor", sum := "28a0f81c2a1d77e1846e1f796dee58aaea604dda9a6d43402472eb166a755ff5", checked := Tryd.checked }
namespace Rows
def none {H : Type} : Left H := { results := [], args := [] }

/- WHAT THE LISTED PACKAGE-LEVEL VARIABLES READ AS WHEN THE CALL BEGINS. Each datum BY PROGRAM (the guide's laid-datum.mjs) off the statement by which the dump's own 'gosem.cut.vars' lays the variable. In a bare row this is a premise. The card (YteondohagdfgeaaDoorCards.lean) ties it to the program's text. -/
def laid_pub_paratext_pub_rscmarkdown_htmlEntities {H : Type} : DataW H := .agg [.agg [.lit (.string [38, 97, 109, 112, 59]), .lit (.string [38])], .agg [.lit (.string [38, 97, 112, 111, 115, 59]), .lit (.string [39])], .agg [.lit (.string [38, 99, 111, 112, 121, 59]), .lit (.string [194, 169])], .agg [.lit (.string [38, 102, 114, 97, 99, 51, 52, 59]), .lit (.string [194, 190])], .agg [.lit (.string [38, 103, 116, 59]), .lit (.string [62])], .agg [.lit (.string [38, 104, 101, 108, 108, 105, 112, 59]), .lit (.string [226, 128, 166])], .agg [.lit (.string [38, 108, 116, 59]), .lit (.string [60])], .agg [.lit (.string [38, 109, 100, 97, 115, 104, 59]), .lit (.string [226, 128, 148])], .agg [.lit (.string [38, 110, 98, 115, 112, 59]), .lit (.string [194, 160])], .agg [.lit (.string [38, 110, 100, 97, 115, 104, 59]), .lit (.string [226, 128, 147])], .agg [.lit (.string [38, 113, 117, 111, 116, 59]), .lit (.string [34])], .agg [.lit (.string [38, 114, 101, 103, 59]), .lit (.string [194, 174])]]

/-- 'laws.FnUnescape': WHATEVER THE INPUT: true; the input reads as it did. -/
def fnUnescapeSpec : ChangeSpec := { name := "fnUnescape", fn := fun _ => fun
  | [d] => { results := [.lit (.bool true)], args := [d] }
  | _ => none }
def fnUnescapeRow : OpenClaim := { program := "yteondohagdfgeaadoor", sum := "28a0f81c2a1d77e1846e1f796dee58aaea604dda9a6d43402472eb166a755ff5", func := "pub-paratext/laws.FnUnescape", spec := "fnUnescape", inPlace := ["internal/abi.NoEscape"], named := ["pub-paratext/pub/rscmarkdown.htmlEntities"], apart := false, laid := [("pub-paratext/pub/rscmarkdown.htmlEntities", laid_pub_paratext_pub_rscmarkdown_htmlEntities)] }
def FnUnescapeSaid : Prop := fnUnescapeRow.holds Tryd.pinned (OpenSpec.ofChange fnUnescapeSpec)

/-- ITS FALSE NEIGHBOUR: 'it returns false'. Refute it at one input. -/
def fnUnescapeWrong : ChangeSpec := { name := "fnUnescape", fn := fun _ => fun
  | [d] => { results := [.lit (.bool false)], args := [d] }
  | _ => none }
def FnUnescapeWrongFalsely : Prop := fnUnescapeRow.holds Tryd.pinned (OpenSpec.ofChange fnUnescapeWrong)

/-- 'laws.FnDest': WHATEVER THE INPUT: true; the input reads as it did. -/
def fnDestSpec : ChangeSpec := { name := "fnDest", fn := fun _ => fun
  | [d1, d2] => { results := [.lit (.bool true)], args := [d1, d2] }
  | _ => none }
def fnDestRow : OpenClaim := { program := "yteondohagdfgeaadoor", sum := "28a0f81c2a1d77e1846e1f796dee58aaea604dda9a6d43402472eb166a755ff5", func := "pub-paratext/laws.FnDest", spec := "fnDest", inPlace := ["internal/abi.NoEscape"], named := ["pub-paratext/pub/rscmarkdown.htmlEntities"], apart := false, laid := [("pub-paratext/pub/rscmarkdown.htmlEntities", laid_pub_paratext_pub_rscmarkdown_htmlEntities)] }
def FnDestSaid : Prop := fnDestRow.holds Tryd.pinned (OpenSpec.ofChange fnDestSpec)

/-- ITS FALSE NEIGHBOUR: 'it returns false'. Refute it at one input. -/
def fnDestWrong : ChangeSpec := { name := "fnDest", fn := fun _ => fun
  | [d1, d2] => { results := [.lit (.bool false)], args := [d1, d2] }
  | _ => none }
def FnDestWrongFalsely : Prop := fnDestRow.holds Tryd.pinned (OpenSpec.ofChange fnDestWrong)

/- THE SECOND FORM. 'bulk': how many values and letters a reading holds, each counted each time it is reached (what is shared counts as often as it is met; a slice's spare places count too). A statement '..UptoSaid' is the law's where the arguments, and the package variables that the reading takes, are together of bulk at most 1048576: NARROWER than '..Said'. Prove '..Said' where nothing that the law and all that it calls make is longer than what came in: it says more and counts as full. Else prove '..UptoSaid'. A law counts once. -/
mutual
def uptoBulk {H : Type} : DataW H → Nat
  | .lit (.string bytes) => bytes.length + 1
  | .lit _ => 1
  | .nil => 1
  | .ptr d => uptoBulk d + 1
  | .slice elems spare => uptoBulkAll elems + uptoBulkAll spare + 1
  | .agg parts => uptoBulkAll parts + 1
  | .iface _ d => uptoBulk d + 1
  | .map entries => uptoBulkEntries entries + 1
  | .held _ => 1
def uptoBulkAll {H : Type} : List (DataW H) → Nat
  | [] => 0
  | d :: r => uptoBulk d + uptoBulkAll r
def uptoBulkEntries {H : Type} : List (Lit × DataW H) → Nat
  | [] => 0
  | x :: r => uptoBulkEntry x + uptoBulkEntries r
def uptoBulkEntry {H : Type} : Lit × DataW H → Nat
  | (.string bytes, d) => bytes.length + uptoBulk d + 1
  | (_, d) => uptoBulk d + 1
 end
def uptoSmall : (H : Type) → List (DataW H) → Bool := fun _ ds => decide (uptoBulkAll ds ≤ 1048576)
def OpenSpec.upto (s : _root_.Go.ChangeSpec) : _root_.Go.OpenSpec := { _root_.Go.OpenSpec.ofChange s with cond := some uptoSmall }

/-- 'laws.FnUnescape', WHERE WHAT IT READS IS OF BULK AT MOST 1048576: true; the input reads as it did. -/
def fnUnescapeUptoRow : OpenClaim := { program := "yteondohagdfgeaadoor", sum := "28a0f81c2a1d77e1846e1f796dee58aaea604dda9a6d43402472eb166a755ff5", func := "pub-paratext/laws.FnUnescape", spec := "fnUnescape", inPlace := ["internal/abi.NoEscape"], named := ["pub-paratext/pub/rscmarkdown.htmlEntities"], apart := false, laid := [("pub-paratext/pub/rscmarkdown.htmlEntities", laid_pub_paratext_pub_rscmarkdown_htmlEntities)], narrowed := true }
def FnUnescapeUptoSaid : Prop := fnUnescapeUptoRow.holds Tryd.pinned (OpenSpec.upto fnUnescapeSpec)

/-- 'laws.FnDest', WHERE WHAT IT READS IS OF BULK AT MOST 1048576: true; the input reads as it did. -/
def fnDestUptoRow : OpenClaim := { program := "yteondohagdfgeaadoor", sum := "28a0f81c2a1d77e1846e1f796dee58aaea604dda9a6d43402472eb166a755ff5", func := "pub-paratext/laws.FnDest", spec := "fnDest", inPlace := ["internal/abi.NoEscape"], named := ["pub-paratext/pub/rscmarkdown.htmlEntities"], apart := false, laid := [("pub-paratext/pub/rscmarkdown.htmlEntities", laid_pub_paratext_pub_rscmarkdown_htmlEntities)], narrowed := true }
def FnDestUptoSaid : Prop := fnDestUptoRow.holds Tryd.pinned (OpenSpec.upto fnDestSpec)

end Rows
end Go.Proofs.YteondohagdfgeaaDoor
