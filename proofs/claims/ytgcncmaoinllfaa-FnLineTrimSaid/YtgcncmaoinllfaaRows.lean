/-
  No cell of these rows narrows 'for every input' (looked for: loops, veiled, ifaces, maps, wideKeys, modest, calm, conditions, laid).
  DERIVED. THE GIVEN ROWS OF THIS SEAT. 7 by the template 'for every input the law returns true; each argument reads behind the call as it read before'; 0 by the template 'total and deterministic' (their statements: YtgcncmaoinllfaaTotals.lean).
  GIVEN WITH THE SEED: the statements are not yours to turn. If you find one false, say at which input.
  Laid BY PROGRAM, IN A SANDBOX (cutbox-rows.mjs): the forced cells as the released guide's own fill.sh prints them over the translation cdf621daa9f73902… (all of the seat's roots in one cut). By AI agents, Wed Nov 11 2026. No macro, syntax, notation, axiom, sorry.
-/
import Derived.Test.YtgcncmaoinllfaaChecked
import GoSem.Claim
import GoSem.ClaimJoined
import GoSem.ClaimMapViews
import Derived.JoinedTies
import Derived.KernelRfl
namespace Go.Proofs.Ytgcncmaoinllfaa
/- THE CELL 'sum', in the pinned program and in every row, IS THE sha256 OF THE DUMP (.gsa) THAT YtgcncmaoinllfaaProg.lean LOADS. Nothing in Lean hashes anything: it is a label: what it is worth is what the hold of that sum in a sandbox is worth. -/
noncomputable def Try.pinned : Pinned := { name := "ytgcncmaoinllfaa", sum := "cdf621daa9f739024c62bd87fb288f6aa55f87ecdf05642c199c5ce4df82cd7d", checked := Try.checked }
namespace Rows
def none {H : Type} : Left H := { results := [], args := [] }

/-- 'laws.FnTableUnescape': WHATEVER THE INPUT: true; the input reads as it did. -/
def fnTableUnescapeSpec : ChangeSpec := { name := "fnTableUnescape", fn := fun _ => fun
  | [d] => { results := [.lit (.bool true)], args := [d] }
  | _ => none }
def fnTableUnescapeRow : OpenClaim := { program := "ytgcncmaoinllfaa", sum := "cdf621daa9f739024c62bd87fb288f6aa55f87ecdf05642c199c5ce4df82cd7d", func := "pub-paratext/laws.FnTableUnescape", spec := "fnTableUnescape", apart := false }
def FnTableUnescapeSaid : Prop := fnTableUnescapeRow.holds Try.pinned (OpenSpec.ofChange fnTableUnescapeSpec)

/-- ITS FALSE NEIGHBOUR: 'it returns false'. Refute it at one input. -/
def fnTableUnescapeWrong : ChangeSpec := { name := "fnTableUnescape", fn := fun _ => fun
  | [d] => { results := [.lit (.bool false)], args := [d] }
  | _ => none }
def FnTableUnescapeWrongFalsely : Prop := fnTableUnescapeRow.holds Try.pinned (OpenSpec.ofChange fnTableUnescapeWrong)

/-- 'laws.FnSkipSpace': WHATEVER THE INPUT: true; the input reads as it did. -/
def fnSkipSpaceSpec : ChangeSpec := { name := "fnSkipSpace", fn := fun _ => fun
  | [d1, d2] => { results := [.lit (.bool true)], args := [d1, d2] }
  | _ => none }
def fnSkipSpaceRow : OpenClaim := { program := "ytgcncmaoinllfaa", sum := "cdf621daa9f739024c62bd87fb288f6aa55f87ecdf05642c199c5ce4df82cd7d", func := "pub-paratext/laws.FnSkipSpace", spec := "fnSkipSpace", inPlace := ["internal/bytealg.IndexByteString"], apart := false }
def FnSkipSpaceSaid : Prop := fnSkipSpaceRow.holds Try.pinned (OpenSpec.ofChange fnSkipSpaceSpec)

/-- ITS FALSE NEIGHBOUR: 'it returns false'. Refute it at one input. -/
def fnSkipSpaceWrong : ChangeSpec := { name := "fnSkipSpace", fn := fun _ => fun
  | [d1, d2] => { results := [.lit (.bool false)], args := [d1, d2] }
  | _ => none }
def FnSkipSpaceWrongFalsely : Prop := fnSkipSpaceRow.holds Try.pinned (OpenSpec.ofChange fnSkipSpaceWrong)

/-- 'laws.FnUser': WHATEVER THE INPUT: true; the input reads as it did. -/
def fnUserSpec : ChangeSpec := { name := "fnUser", fn := fun _ => fun
  | [d] => { results := [.lit (.bool true)], args := [d] }
  | _ => none }
def fnUserRow : OpenClaim := { program := "ytgcncmaoinllfaa", sum := "cdf621daa9f739024c62bd87fb288f6aa55f87ecdf05642c199c5ce4df82cd7d", func := "pub-paratext/laws.FnUser", spec := "fnUser", apart := false }
def FnUserSaid : Prop := fnUserRow.holds Try.pinned (OpenSpec.ofChange fnUserSpec)

/-- ITS FALSE NEIGHBOUR: 'it returns false'. Refute it at one input. -/
def fnUserWrong : ChangeSpec := { name := "fnUser", fn := fun _ => fun
  | [d] => { results := [.lit (.bool false)], args := [d] }
  | _ => none }
def FnUserWrongFalsely : Prop := fnUserRow.holds Try.pinned (OpenSpec.ofChange fnUserWrong)

/-- 'laws.FnLongest': WHATEVER THE INPUT: true; the input reads as it did. -/
def fnLongestSpec : ChangeSpec := { name := "fnLongest", fn := fun _ => fun
  | [d1, d2] => { results := [.lit (.bool true)], args := [d1, d2] }
  | _ => none }
def fnLongestRow : OpenClaim := { program := "ytgcncmaoinllfaa", sum := "cdf621daa9f739024c62bd87fb288f6aa55f87ecdf05642c199c5ce4df82cd7d", func := "pub-paratext/laws.FnLongest", spec := "fnLongest", apart := false }
def FnLongestSaid : Prop := fnLongestRow.holds Try.pinned (OpenSpec.ofChange fnLongestSpec)

/-- ITS FALSE NEIGHBOUR: 'it returns false'. Refute it at one input. -/
def fnLongestWrong : ChangeSpec := { name := "fnLongest", fn := fun _ => fun
  | [d1, d2] => { results := [.lit (.bool false)], args := [d1, d2] }
  | _ => none }
def FnLongestWrongFalsely : Prop := fnLongestRow.holds Try.pinned (OpenSpec.ofChange fnLongestWrong)

/-- 'laws.FnTableTrim': WHATEVER THE INPUT: true; the input reads as it did. -/
def fnTableTrimSpec : ChangeSpec := { name := "fnTableTrim", fn := fun _ => fun
  | [d] => { results := [.lit (.bool true)], args := [d] }
  | _ => none }
def fnTableTrimRow : OpenClaim := { program := "ytgcncmaoinllfaa", sum := "cdf621daa9f739024c62bd87fb288f6aa55f87ecdf05642c199c5ce4df82cd7d", func := "pub-paratext/laws.FnTableTrim", spec := "fnTableTrim", inPlace := ["internal/bytealg.IndexByteString"], unfollowed := true, recurses := true, apart := false }
def FnTableTrimSaid : Prop := fnTableTrimRow.holds Try.pinned (OpenSpec.ofChange fnTableTrimSpec)

/-- ITS FALSE NEIGHBOUR: 'it returns false'. Refute it at one input. -/
def fnTableTrimWrong : ChangeSpec := { name := "fnTableTrim", fn := fun _ => fun
  | [d] => { results := [.lit (.bool false)], args := [d] }
  | _ => none }
def FnTableTrimWrongFalsely : Prop := fnTableTrimRow.holds Try.pinned (OpenSpec.ofChange fnTableTrimWrong)

/-- 'laws.FnDomain': WHATEVER THE INPUT: true; the input reads as it did. -/
def fnDomainSpec : ChangeSpec := { name := "fnDomain", fn := fun _ => fun
  | [d1, d2, d3, d4, d5] => { results := [.lit (.bool true)], args := [d1, d2, d3, d4, d5] }
  | _ => none }
def fnDomainRow : OpenClaim := { program := "ytgcncmaoinllfaa", sum := "cdf621daa9f739024c62bd87fb288f6aa55f87ecdf05642c199c5ce4df82cd7d", func := "pub-paratext/laws.FnDomain", spec := "fnDomain", inPlace := ["internal/bytealg.IndexByteString"], apart := false }
def FnDomainSaid : Prop := fnDomainRow.holds Try.pinned (OpenSpec.ofChange fnDomainSpec)

/-- ITS FALSE NEIGHBOUR: 'it returns false'. Refute it at one input. -/
def fnDomainWrong : ChangeSpec := { name := "fnDomain", fn := fun _ => fun
  | [d1, d2, d3, d4, d5] => { results := [.lit (.bool false)], args := [d1, d2, d3, d4, d5] }
  | _ => none }
def FnDomainWrongFalsely : Prop := fnDomainRow.holds Try.pinned (OpenSpec.ofChange fnDomainWrong)

/-- 'laws.FnLineTrim': WHATEVER THE INPUT: true; the input reads as it did. -/
def fnLineTrimSpec : ChangeSpec := { name := "fnLineTrim", fn := fun _ => fun
  | [d1, d2, d3] => { results := [.lit (.bool true)], args := [d1, d2, d3] }
  | _ => none }
def fnLineTrimRow : OpenClaim := { program := "ytgcncmaoinllfaa", sum := "cdf621daa9f739024c62bd87fb288f6aa55f87ecdf05642c199c5ce4df82cd7d", func := "pub-paratext/laws.FnLineTrim", spec := "fnLineTrim", inPlace := ["internal/bytealg.IndexByteString"], apart := false }
def FnLineTrimSaid : Prop := fnLineTrimRow.holds Try.pinned (OpenSpec.ofChange fnLineTrimSpec)

/-- ITS FALSE NEIGHBOUR: 'it returns false'. Refute it at one input. -/
def fnLineTrimWrong : ChangeSpec := { name := "fnLineTrim", fn := fun _ => fun
  | [d1, d2, d3] => { results := [.lit (.bool false)], args := [d1, d2, d3] }
  | _ => none }
def FnLineTrimWrongFalsely : Prop := fnLineTrimRow.holds Try.pinned (OpenSpec.ofChange fnLineTrimWrong)

/- THE SECOND FORM. 'bulk': how many values and letters a reading holds, each counted each time it is reached (what is shared counts as often as it is met; a slice's spare places count too). A statement '..UptoSaid' is the law's where the arguments, and the package variables that the reading takes, are together of bulk at most 1048576: NARROWER than '..Said'. Prove '..Said' where nothing that the law and all that it calls make is longer than what came in: it says more and counts as full. Else prove '..UptoSaid'. A law counts once. -/
mutual
def uptoBulk {H : Type} : DataW H → Nat
  | .lit (.string bytes) => bytes.length + 1
  | .lit _ => 1
  | .nil => 1
  | .ptr d => uptoBulk d + 1
  | .slice elems spare => uptoBulkAll elems + uptoBulkAll spare + 1
  | .agg parts => uptoBulkAll parts + 1
  | .iface _ d => uptoBulk d + 1
  | .map entries => uptoBulkEntries entries + 1
  | .held _ => 1
def uptoBulkAll {H : Type} : List (DataW H) → Nat
  | [] => 0
  | d :: r => uptoBulk d + uptoBulkAll r
def uptoBulkEntries {H : Type} : List (Lit × DataW H) → Nat
  | [] => 0
  | x :: r => uptoBulkEntry x + uptoBulkEntries r
def uptoBulkEntry {H : Type} : Lit × DataW H → Nat
  | (.string bytes, d) => bytes.length + uptoBulk d + 1
  | (_, d) => uptoBulk d + 1
 end
def uptoSmall : (H : Type) → List (DataW H) → Bool := fun _ ds => decide (uptoBulkAll ds ≤ 1048576)
def OpenSpec.upto (s : _root_.Go.ChangeSpec) : _root_.Go.OpenSpec := { _root_.Go.OpenSpec.ofChange s with cond := some uptoSmall }

/-- 'laws.FnTableUnescape', WHERE WHAT IT READS IS OF BULK AT MOST 1048576: true; the input reads as it did. -/
def fnTableUnescapeUptoRow : OpenClaim := { program := "ytgcncmaoinllfaa", sum := "cdf621daa9f739024c62bd87fb288f6aa55f87ecdf05642c199c5ce4df82cd7d", func := "pub-paratext/laws.FnTableUnescape", spec := "fnTableUnescape", apart := false, narrowed := true }
def FnTableUnescapeUptoSaid : Prop := fnTableUnescapeUptoRow.holds Try.pinned (OpenSpec.upto fnTableUnescapeSpec)

/-- 'laws.FnSkipSpace', WHERE WHAT IT READS IS OF BULK AT MOST 1048576: true; the input reads as it did. -/
def fnSkipSpaceUptoRow : OpenClaim := { program := "ytgcncmaoinllfaa", sum := "cdf621daa9f739024c62bd87fb288f6aa55f87ecdf05642c199c5ce4df82cd7d", func := "pub-paratext/laws.FnSkipSpace", spec := "fnSkipSpace", inPlace := ["internal/bytealg.IndexByteString"], apart := false, narrowed := true }
def FnSkipSpaceUptoSaid : Prop := fnSkipSpaceUptoRow.holds Try.pinned (OpenSpec.upto fnSkipSpaceSpec)

/-- 'laws.FnUser', WHERE WHAT IT READS IS OF BULK AT MOST 1048576: true; the input reads as it did. -/
def fnUserUptoRow : OpenClaim := { program := "ytgcncmaoinllfaa", sum := "cdf621daa9f739024c62bd87fb288f6aa55f87ecdf05642c199c5ce4df82cd7d", func := "pub-paratext/laws.FnUser", spec := "fnUser", apart := false, narrowed := true }
def FnUserUptoSaid : Prop := fnUserUptoRow.holds Try.pinned (OpenSpec.upto fnUserSpec)

/-- 'laws.FnLongest', WHERE WHAT IT READS IS OF BULK AT MOST 1048576: true; the input reads as it did. -/
def fnLongestUptoRow : OpenClaim := { program := "ytgcncmaoinllfaa", sum := "cdf621daa9f739024c62bd87fb288f6aa55f87ecdf05642c199c5ce4df82cd7d", func := "pub-paratext/laws.FnLongest", spec := "fnLongest", apart := false, narrowed := true }
def FnLongestUptoSaid : Prop := fnLongestUptoRow.holds Try.pinned (OpenSpec.upto fnLongestSpec)

/-- 'laws.FnTableTrim', WHERE WHAT IT READS IS OF BULK AT MOST 1048576: true; the input reads as it did. -/
def fnTableTrimUptoRow : OpenClaim := { program := "ytgcncmaoinllfaa", sum := "cdf621daa9f739024c62bd87fb288f6aa55f87ecdf05642c199c5ce4df82cd7d", func := "pub-paratext/laws.FnTableTrim", spec := "fnTableTrim", inPlace := ["internal/bytealg.IndexByteString"], unfollowed := true, recurses := true, apart := false, narrowed := true }
def FnTableTrimUptoSaid : Prop := fnTableTrimUptoRow.holds Try.pinned (OpenSpec.upto fnTableTrimSpec)

/-- 'laws.FnDomain', WHERE WHAT IT READS IS OF BULK AT MOST 1048576: true; the input reads as it did. -/
def fnDomainUptoRow : OpenClaim := { program := "ytgcncmaoinllfaa", sum := "cdf621daa9f739024c62bd87fb288f6aa55f87ecdf05642c199c5ce4df82cd7d", func := "pub-paratext/laws.FnDomain", spec := "fnDomain", inPlace := ["internal/bytealg.IndexByteString"], apart := false, narrowed := true }
def FnDomainUptoSaid : Prop := fnDomainUptoRow.holds Try.pinned (OpenSpec.upto fnDomainSpec)

/-- 'laws.FnLineTrim', WHERE WHAT IT READS IS OF BULK AT MOST 1048576: true; the input reads as it did. -/
def fnLineTrimUptoRow : OpenClaim := { program := "ytgcncmaoinllfaa", sum := "cdf621daa9f739024c62bd87fb288f6aa55f87ecdf05642c199c5ce4df82cd7d", func := "pub-paratext/laws.FnLineTrim", spec := "fnLineTrim", inPlace := ["internal/bytealg.IndexByteString"], apart := false, narrowed := true }
def FnLineTrimUptoSaid : Prop := fnLineTrimUptoRow.holds Try.pinned (OpenSpec.upto fnLineTrimSpec)

end Rows
end Go.Proofs.Ytgcncmaoinllfaa
