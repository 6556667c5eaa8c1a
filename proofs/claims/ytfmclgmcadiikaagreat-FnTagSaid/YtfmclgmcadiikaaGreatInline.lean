/- Contracts of the thin package's inline, one and read where the inline is raw HTML or an autolink, and of parseHTMLMarker. Conditions: as each states them. -/
import Derived.Test.YtfmclgmcadiikaaGreatProg
import Derived.Test.YtfmclgmcadiikaaGreatBase
import Derived.Test.YtfmclgmcadiikaaGreatMark
namespace Go.Proofs.YtfmclgmcadiikaaGreat
open Go.RowKit
theorem asHTMLTag_Plain (v : Value) (w : World) : (Instr.typeAssert (.iface 74 v) 35 45 true).run Tryz.prog w = .ok (.tuple #[.pointer none, .bool false]) w := by kernel_rfl
theorem asHTMLTag_emphPlain (v : Value) (w : World) : (Instr.typeAssert (.iface 74 v) 35 100 true).run Tryz.prog w = .ok (.tuple #[.pointer none, .bool false]) w := by kernel_rfl
theorem asHTMLTag_openPlain (v : Value) (w : World) : (Instr.typeAssert (.iface 74 v) 35 103 true).run Tryz.prog w = .ok (.tuple #[.pointer none, .bool false]) w := by kernel_rfl
theorem asHTMLTag_Escaped (v : Value) (w : World) : (Instr.typeAssert (.iface 74 v) 35 49 true).run Tryz.prog w = .ok (.tuple #[.pointer none, .bool false]) w := by kernel_rfl
theorem asHTMLTag_SoftBreak (v : Value) (w : World) : (Instr.typeAssert (.iface 74 v) 35 52 true).run Tryz.prog w = .ok (.tuple #[.pointer none, .bool false]) w := by kernel_rfl
theorem asHTMLTag_HardBreak (v : Value) (w : World) : (Instr.typeAssert (.iface 74 v) 35 53 true).run Tryz.prog w = .ok (.tuple #[.pointer none, .bool false]) w := by kernel_rfl
theorem asHTMLTag_Code (v : Value) (w : World) : (Instr.typeAssert (.iface 74 v) 35 54 true).run Tryz.prog w = .ok (.tuple #[.pointer none, .bool false]) w := by kernel_rfl
theorem asHTMLTag_Emph (v : Value) (w : World) : (Instr.typeAssert (.iface 74 v) 35 56 true).run Tryz.prog w = .ok (.tuple #[.pointer none, .bool false]) w := by kernel_rfl
theorem asHTMLTag_Strong (v : Value) (w : World) : (Instr.typeAssert (.iface 74 v) 35 61 true).run Tryz.prog w = .ok (.tuple #[.pointer none, .bool false]) w := by kernel_rfl
theorem asHTMLTag_Del (v : Value) (w : World) : (Instr.typeAssert (.iface 74 v) 35 63 true).run Tryz.prog w = .ok (.tuple #[.pointer none, .bool false]) w := by kernel_rfl
theorem asHTMLTag_Link (v : Value) (w : World) : (Instr.typeAssert (.iface 74 v) 35 65 true).run Tryz.prog w = .ok (.tuple #[.pointer none, .bool false]) w := by kernel_rfl
theorem asHTMLTag_Image (v : Value) (w : World) : (Instr.typeAssert (.iface 74 v) 35 69 true).run Tryz.prog w = .ok (.tuple #[.pointer none, .bool false]) w := by kernel_rfl
theorem asHTMLTag_AutoLink (v : Value) (w : World) : (Instr.typeAssert (.iface 74 v) 35 71 true).run Tryz.prog w = .ok (.tuple #[.pointer none, .bool false]) w := by kernel_rfl
theorem asHTMLTag_HTMLTag (v : Value) (w : World) : (Instr.typeAssert (.iface 74 v) 35 74 true).run Tryz.prog w = .ok (.tuple #[v, .bool true]) w := by kernel_rfl
theorem asAutoLink_Plain (v : Value) (w : World) : (Instr.typeAssert (.iface 71 v) 35 45 true).run Tryz.prog w = .ok (.tuple #[.pointer none, .bool false]) w := by kernel_rfl
theorem asAutoLink_emphPlain (v : Value) (w : World) : (Instr.typeAssert (.iface 71 v) 35 100 true).run Tryz.prog w = .ok (.tuple #[.pointer none, .bool false]) w := by kernel_rfl
theorem asAutoLink_openPlain (v : Value) (w : World) : (Instr.typeAssert (.iface 71 v) 35 103 true).run Tryz.prog w = .ok (.tuple #[.pointer none, .bool false]) w := by kernel_rfl
theorem asAutoLink_Escaped (v : Value) (w : World) : (Instr.typeAssert (.iface 71 v) 35 49 true).run Tryz.prog w = .ok (.tuple #[.pointer none, .bool false]) w := by kernel_rfl
theorem asAutoLink_SoftBreak (v : Value) (w : World) : (Instr.typeAssert (.iface 71 v) 35 52 true).run Tryz.prog w = .ok (.tuple #[.pointer none, .bool false]) w := by kernel_rfl
theorem asAutoLink_HardBreak (v : Value) (w : World) : (Instr.typeAssert (.iface 71 v) 35 53 true).run Tryz.prog w = .ok (.tuple #[.pointer none, .bool false]) w := by kernel_rfl
theorem asAutoLink_Code (v : Value) (w : World) : (Instr.typeAssert (.iface 71 v) 35 54 true).run Tryz.prog w = .ok (.tuple #[.pointer none, .bool false]) w := by kernel_rfl
theorem asAutoLink_Emph (v : Value) (w : World) : (Instr.typeAssert (.iface 71 v) 35 56 true).run Tryz.prog w = .ok (.tuple #[.pointer none, .bool false]) w := by kernel_rfl
theorem asAutoLink_Strong (v : Value) (w : World) : (Instr.typeAssert (.iface 71 v) 35 61 true).run Tryz.prog w = .ok (.tuple #[.pointer none, .bool false]) w := by kernel_rfl
theorem asAutoLink_Del (v : Value) (w : World) : (Instr.typeAssert (.iface 71 v) 35 63 true).run Tryz.prog w = .ok (.tuple #[.pointer none, .bool false]) w := by kernel_rfl
theorem asAutoLink_Link (v : Value) (w : World) : (Instr.typeAssert (.iface 71 v) 35 65 true).run Tryz.prog w = .ok (.tuple #[.pointer none, .bool false]) w := by kernel_rfl
theorem asAutoLink_Image (v : Value) (w : World) : (Instr.typeAssert (.iface 71 v) 35 69 true).run Tryz.prog w = .ok (.tuple #[.pointer none, .bool false]) w := by kernel_rfl
theorem asAutoLink_AutoLink (v : Value) (w : World) : (Instr.typeAssert (.iface 71 v) 35 71 true).run Tryz.prog w = .ok (.tuple #[v, .bool true]) w := by kernel_rfl
/-- A Node of a kind and a text. -/
abbrev nodeCs (k : Int) (t : ByteArray) : Array Value := #[.int .i64 k, .string t, .string ⟨#[]⟩, .int .i64 0, .string ⟨#[]⟩, .bool false, .slice none 0 0, .slice none 0 0, .int .i64 0, .int .i64 0, .string ⟨#[]⟩, .int .i64 0, .bool false, .bool false, .bool false, .slice none 0 0]
abbrev nodeKT (k : Int) (t : ByteArray) : Value := .agg (nodeCs k t)
set_option maxRecDepth 100000 in
set_option maxHeartbeats 1000000 in
theorem inlineTag_any (g : Nat) (t : ByteArray) (w : World) (hc : w.cell? ⟨g, 0, none⟩ = some (.string t)) (hg : g < w.heap.size) :
    Calls Tryz.prog 16 #[.iface 74 (.pointer (some ⟨g, 0, none⟩))] w fun e w' => e = .returned (nodeKT 29 t) ∧ w.alloc (.cells (nodeCs 29 t) 28) = w' := by
  have asHTMLTag_Plain' := asHTMLTag_Plain
  have asHTMLTag_emphPlain' := asHTMLTag_emphPlain
  have asHTMLTag_openPlain' := asHTMLTag_openPlain
  have asHTMLTag_Escaped' := asHTMLTag_Escaped
  have asHTMLTag_SoftBreak' := asHTMLTag_SoftBreak
  have asHTMLTag_HardBreak' := asHTMLTag_HardBreak
  have asHTMLTag_Code' := asHTMLTag_Code
  have asHTMLTag_Emph' := asHTMLTag_Emph
  have asHTMLTag_Strong' := asHTMLTag_Strong
  have asHTMLTag_Del' := asHTMLTag_Del
  have asHTMLTag_Link' := asHTMLTag_Link
  have asHTMLTag_Image' := asHTMLTag_Image
  have asHTMLTag_AutoLink' := asHTMLTag_AutoLink
  have asHTMLTag_HTMLTag' := asHTMLTag_HTMLTag
  go_enter Tryz.func16, Tryz.ntmps16
  go_wp2
  exact bodyPost_ret (v := nodeKT 29 t) (by simp [results, Tryz.results16, go_sem]) rfl ⟨rfl, rfl⟩
set_option maxRecDepth 100000 in
set_option maxHeartbeats 1000000 in
theorem oneTag_yes (g : Nat) (t : ByteArray) (n : Int) (w : World) (hc : w.cell? ⟨g, 0, none⟩ = some (.string t)) (hg : g < w.heap.size) :
    Calls Tryz.prog 9 #[.iface 74 (.pointer (some ⟨g, 0, none⟩)), .int .i64 n, .bool true] w fun e w' => e = .returned (.tuple #[nodeKT 29 t, .int .i64 n, .bool true]) ∧ (w.alloc (.cells (nodeCs 29 t) 28)).alloc (.cells (nodeCs 29 t) 28) = w' := by
  go_enter Tryz.func9, Tryz.ntmps9
  go_wp2_with (go_at_call 16; refine (inlineTag_any g t _ (by rw [World.cell?_alloc_lt _ _ _ hg]; exact hc) (by simp; omega)).mono ?_; rintro e w1 ⟨rfl, rfl⟩)
  exact bodyPost_ret (v := .tuple #[nodeKT 29 t, .int .i64 n, .bool true]) (by simp [results, Tryz.results9, go_sem]) rfl ⟨rfl, rfl⟩
set_option maxRecDepth 100000 in
theorem one_no (x : Value) (n : Int) (w : World) :
    Calls Tryz.prog 9 #[x, .int .i64 n, .bool false] w fun e w' => e = .returned (.tuple #[nodeKT 0 ⟨#[]⟩, .int .i64 0, .bool false]) ∧ w.alloc (.cells (nodeCs 0 ⟨#[]⟩) 28) = w' := by
  go_enter Tryz.func9, Tryz.ntmps9
  go_wp2
  exact bodyPost_ret (v := .tuple #[nodeKT 0 ⟨#[]⟩, .int .i64 0, .bool false]) (by simp [results, Tryz.results9, go_sem]) rfl ⟨rfl, rfl⟩
end Go.Proofs.YtfmclgmcadiikaaGreat
