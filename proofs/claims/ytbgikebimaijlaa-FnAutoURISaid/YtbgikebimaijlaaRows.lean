/-
  No cell of these rows narrows 'for every input' (looked for: loops, veiled, ifaces, maps, wideKeys, modest, calm, conditions, laid).
  DERIVED. THE GIVEN ROWS OF THIS SEAT. 4 by the template 'for every input the law returns true; each argument reads behind the call as it read before'; 0 by the template 'total and deterministic' (their statements: YtbgikebimaijlaaTotals.lean).
  GIVEN WITH THE SEED: the statements are not yours to turn. If you find one false, say at which input.
  Laid BY PROGRAM, IN A SANDBOX (cutbox-rows.mjs): the forced cells as the released guide's own fill.sh prints them over the translation d59fc70fadbaacb1… (all of the seat's roots in one cut). By AI agents, Wed Nov 11 2026. No macro, syntax, notation, axiom, sorry.
-/
import Derived.Test.YtbgikebimaijlaaChecked
import GoSem.Claim
import GoSem.ClaimJoined
import GoSem.ClaimMapViews
import Derived.JoinedTies
import Derived.KernelRfl
namespace Go.Proofs.Ytbgikebimaijlaa
/- THE CELL 'sum', in the pinned program and in every row, IS THE sha256 OF THE DUMP (.gsa) THAT YtbgikebimaijlaaProg.lean LOADS. Nothing in Lean hashes anything: it is a label: what it is worth is what the hold of that sum in a sandbox is worth. -/
noncomputable def Try.pinned : Pinned := { name := "ytbgikebimaijlaa", sum := "d59fc70fadbaacb138326819b60713ead013892aba4cf3b6b486ba56795c5cb9", checked := Try.checked }
namespace Rows
def none {H : Type} : Left H := { results := [], args := [] }

/-- 'laws.FnCDATA': WHATEVER THE INPUT: true; the input reads as it did. -/
def fnCDATASpec : ChangeSpec := { name := "fnCDATA", fn := fun _ => fun
  | [d1, d2] => { results := [.lit (.bool true)], args := [d1, d2] }
  | _ => none }
def fnCDATARow : OpenClaim := { program := "ytbgikebimaijlaa", sum := "d59fc70fadbaacb138326819b60713ead013892aba4cf3b6b486ba56795c5cb9", func := "pub-paratext/laws.FnCDATA", spec := "fnCDATA", recurses := true, apart := false }
def FnCDATASaid : Prop := fnCDATARow.holds Try.pinned (OpenSpec.ofChange fnCDATASpec)

/-- ITS FALSE NEIGHBOUR: 'it returns false'. Refute it at one input. -/
def fnCDATAWrong : ChangeSpec := { name := "fnCDATA", fn := fun _ => fun
  | [d1, d2] => { results := [.lit (.bool false)], args := [d1, d2] }
  | _ => none }
def FnCDATAWrongFalsely : Prop := fnCDATARow.holds Try.pinned (OpenSpec.ofChange fnCDATAWrong)

/-- 'laws.FnAttr': WHATEVER THE INPUT: true; the input reads as it did. -/
def fnAttrSpec : ChangeSpec := { name := "fnAttr", fn := fun _ => fun
  | [d1, d2] => { results := [.lit (.bool true)], args := [d1, d2] }
  | _ => none }
def fnAttrRow : OpenClaim := { program := "ytbgikebimaijlaa", sum := "d59fc70fadbaacb138326819b60713ead013892aba4cf3b6b486ba56795c5cb9", func := "pub-paratext/laws.FnAttr", spec := "fnAttr", inPlace := ["internal/bytealg.IndexByteString"], apart := false }
def FnAttrSaid : Prop := fnAttrRow.holds Try.pinned (OpenSpec.ofChange fnAttrSpec)

/-- ITS FALSE NEIGHBOUR: 'it returns false'. Refute it at one input. -/
def fnAttrWrong : ChangeSpec := { name := "fnAttr", fn := fun _ => fun
  | [d1, d2] => { results := [.lit (.bool false)], args := [d1, d2] }
  | _ => none }
def FnAttrWrongFalsely : Prop := fnAttrRow.holds Try.pinned (OpenSpec.ofChange fnAttrWrong)

/-- 'laws.FnDeclaration': WHATEVER THE INPUT: true; the input reads as it did. -/
def fnDeclarationSpec : ChangeSpec := { name := "fnDeclaration", fn := fun _ => fun
  | [d1, d2] => { results := [.lit (.bool true)], args := [d1, d2] }
  | _ => none }
def fnDeclarationRow : OpenClaim := { program := "ytbgikebimaijlaa", sum := "d59fc70fadbaacb138326819b60713ead013892aba4cf3b6b486ba56795c5cb9", func := "pub-paratext/laws.FnDeclaration", spec := "fnDeclaration", recurses := true, apart := false }
def FnDeclarationSaid : Prop := fnDeclarationRow.holds Try.pinned (OpenSpec.ofChange fnDeclarationSpec)

/-- ITS FALSE NEIGHBOUR: 'it returns false'. Refute it at one input. -/
def fnDeclarationWrong : ChangeSpec := { name := "fnDeclaration", fn := fun _ => fun
  | [d1, d2] => { results := [.lit (.bool false)], args := [d1, d2] }
  | _ => none }
def FnDeclarationWrongFalsely : Prop := fnDeclarationRow.holds Try.pinned (OpenSpec.ofChange fnDeclarationWrong)

/-- 'laws.FnAutoURI': WHATEVER THE INPUT: true; the input reads as it did. -/
def fnAutoURISpec : ChangeSpec := { name := "fnAutoURI", fn := fun _ => fun
  | [d1, d2] => { results := [.lit (.bool true)], args := [d1, d2] }
  | _ => none }
def fnAutoURIRow : OpenClaim := { program := "ytbgikebimaijlaa", sum := "d59fc70fadbaacb138326819b60713ead013892aba4cf3b6b486ba56795c5cb9", func := "pub-paratext/laws.FnAutoURI", spec := "fnAutoURI", recurses := true, apart := false }
def FnAutoURISaid : Prop := fnAutoURIRow.holds Try.pinned (OpenSpec.ofChange fnAutoURISpec)

/-- ITS FALSE NEIGHBOUR: 'it returns false'. Refute it at one input. -/
def fnAutoURIWrong : ChangeSpec := { name := "fnAutoURI", fn := fun _ => fun
  | [d1, d2] => { results := [.lit (.bool false)], args := [d1, d2] }
  | _ => none }
def FnAutoURIWrongFalsely : Prop := fnAutoURIRow.holds Try.pinned (OpenSpec.ofChange fnAutoURIWrong)

/- THE SECOND FORM. 'bulk': how many values and letters a reading holds, each counted each time it is reached (what is shared counts as often as it is met; a slice's spare places count too). A statement '..UptoSaid' is the law's where the arguments, and the package variables that the reading takes, are together of bulk at most 1048576: NARROWER than '..Said'. Prove '..Said' where nothing that the law and all that it calls make is longer than what came in: it says more and counts as full. Else prove '..UptoSaid'. A law counts once. -/
mutual
def uptoBulk {H : Type} : DataW H → Nat
  | .lit (.string bytes) => bytes.length + 1
  | .lit _ => 1
  | .nil => 1
  | .ptr d => uptoBulk d + 1
  | .slice elems spare => uptoBulkAll elems + uptoBulkAll spare + 1
  | .agg parts => uptoBulkAll parts + 1
  | .iface _ d => uptoBulk d + 1
  | .map entries => uptoBulkEntries entries + 1
  | .held _ => 1
def uptoBulkAll {H : Type} : List (DataW H) → Nat
  | [] => 0
  | d :: r => uptoBulk d + uptoBulkAll r
def uptoBulkEntries {H : Type} : List (Lit × DataW H) → Nat
  | [] => 0
  | x :: r => uptoBulkEntry x + uptoBulkEntries r
def uptoBulkEntry {H : Type} : Lit × DataW H → Nat
  | (.string bytes, d) => bytes.length + uptoBulk d + 1
  | (_, d) => uptoBulk d + 1
 end
def uptoSmall : (H : Type) → List (DataW H) → Bool := fun _ ds => decide (uptoBulkAll ds ≤ 1048576)
def OpenSpec.upto (s : _root_.Go.ChangeSpec) : _root_.Go.OpenSpec := { _root_.Go.OpenSpec.ofChange s with cond := some uptoSmall }

/-- 'laws.FnCDATA', WHERE WHAT IT READS IS OF BULK AT MOST 1048576: true; the input reads as it did. -/
def fnCDATAUptoRow : OpenClaim := { program := "ytbgikebimaijlaa", sum := "d59fc70fadbaacb138326819b60713ead013892aba4cf3b6b486ba56795c5cb9", func := "pub-paratext/laws.FnCDATA", spec := "fnCDATA", recurses := true, apart := false, narrowed := true }
def FnCDATAUptoSaid : Prop := fnCDATAUptoRow.holds Try.pinned (OpenSpec.upto fnCDATASpec)

/-- 'laws.FnAttr', WHERE WHAT IT READS IS OF BULK AT MOST 1048576: true; the input reads as it did. -/
def fnAttrUptoRow : OpenClaim := { program := "ytbgikebimaijlaa", sum := "d59fc70fadbaacb138326819b60713ead013892aba4cf3b6b486ba56795c5cb9", func := "pub-paratext/laws.FnAttr", spec := "fnAttr", inPlace := ["internal/bytealg.IndexByteString"], apart := false, narrowed := true }
def FnAttrUptoSaid : Prop := fnAttrUptoRow.holds Try.pinned (OpenSpec.upto fnAttrSpec)

/-- 'laws.FnDeclaration', WHERE WHAT IT READS IS OF BULK AT MOST 1048576: true; the input reads as it did. -/
def fnDeclarationUptoRow : OpenClaim := { program := "ytbgikebimaijlaa", sum := "d59fc70fadbaacb138326819b60713ead013892aba4cf3b6b486ba56795c5cb9", func := "pub-paratext/laws.FnDeclaration", spec := "fnDeclaration", recurses := true, apart := false, narrowed := true }
def FnDeclarationUptoSaid : Prop := fnDeclarationUptoRow.holds Try.pinned (OpenSpec.upto fnDeclarationSpec)

/-- 'laws.FnAutoURI', WHERE WHAT IT READS IS OF BULK AT MOST 1048576: true; the input reads as it did. -/
def fnAutoURIUptoRow : OpenClaim := { program := "ytbgikebimaijlaa", sum := "d59fc70fadbaacb138326819b60713ead013892aba4cf3b6b486ba56795c5cb9", func := "pub-paratext/laws.FnAutoURI", spec := "fnAutoURI", recurses := true, apart := false, narrowed := true }
def FnAutoURIUptoSaid : Prop := fnAutoURIUptoRow.holds Try.pinned (OpenSpec.upto fnAutoURISpec)

end Rows
end Go.Proofs.Ytbgikebimaijlaa
