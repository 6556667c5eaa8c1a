/- Contracts of the thin package's inline, one and read where the inline is raw HTML or an autolink, and of parseHTMLMarker. Conditions: as each states them. -/
import Derived.Test.YtbgikebimaijlaaProg
import Derived.Test.YtbgikebimaijlaaBase
import Derived.Test.YtbgikebimaijlaaMark
namespace Go.Proofs.Ytbgikebimaijlaa
open Go.RowKit
theorem asHTMLTag_Plain (v : Value) (w : World) : (Instr.typeAssert (.iface 80 v) 42 51 true).run Try.prog w = .ok (.tuple #[.pointer none, .bool false]) w := by kernel_rfl
theorem asHTMLTag_emphPlain (v : Value) (w : World) : (Instr.typeAssert (.iface 80 v) 42 104 true).run Try.prog w = .ok (.tuple #[.pointer none, .bool false]) w := by kernel_rfl
theorem asHTMLTag_openPlain (v : Value) (w : World) : (Instr.typeAssert (.iface 80 v) 42 107 true).run Try.prog w = .ok (.tuple #[.pointer none, .bool false]) w := by kernel_rfl
theorem asHTMLTag_Escaped (v : Value) (w : World) : (Instr.typeAssert (.iface 80 v) 42 55 true).run Try.prog w = .ok (.tuple #[.pointer none, .bool false]) w := by kernel_rfl
theorem asHTMLTag_SoftBreak (v : Value) (w : World) : (Instr.typeAssert (.iface 80 v) 42 58 true).run Try.prog w = .ok (.tuple #[.pointer none, .bool false]) w := by kernel_rfl
theorem asHTMLTag_HardBreak (v : Value) (w : World) : (Instr.typeAssert (.iface 80 v) 42 59 true).run Try.prog w = .ok (.tuple #[.pointer none, .bool false]) w := by kernel_rfl
theorem asHTMLTag_Code (v : Value) (w : World) : (Instr.typeAssert (.iface 80 v) 42 60 true).run Try.prog w = .ok (.tuple #[.pointer none, .bool false]) w := by kernel_rfl
theorem asHTMLTag_Emph (v : Value) (w : World) : (Instr.typeAssert (.iface 80 v) 42 62 true).run Try.prog w = .ok (.tuple #[.pointer none, .bool false]) w := by kernel_rfl
theorem asHTMLTag_Strong (v : Value) (w : World) : (Instr.typeAssert (.iface 80 v) 42 67 true).run Try.prog w = .ok (.tuple #[.pointer none, .bool false]) w := by kernel_rfl
theorem asHTMLTag_Del (v : Value) (w : World) : (Instr.typeAssert (.iface 80 v) 42 69 true).run Try.prog w = .ok (.tuple #[.pointer none, .bool false]) w := by kernel_rfl
theorem asHTMLTag_Link (v : Value) (w : World) : (Instr.typeAssert (.iface 80 v) 42 71 true).run Try.prog w = .ok (.tuple #[.pointer none, .bool false]) w := by kernel_rfl
theorem asHTMLTag_Image (v : Value) (w : World) : (Instr.typeAssert (.iface 80 v) 42 75 true).run Try.prog w = .ok (.tuple #[.pointer none, .bool false]) w := by kernel_rfl
theorem asHTMLTag_AutoLink (v : Value) (w : World) : (Instr.typeAssert (.iface 80 v) 42 77 true).run Try.prog w = .ok (.tuple #[.pointer none, .bool false]) w := by kernel_rfl
theorem asHTMLTag_HTMLTag (v : Value) (w : World) : (Instr.typeAssert (.iface 80 v) 42 80 true).run Try.prog w = .ok (.tuple #[v, .bool true]) w := by kernel_rfl
theorem asAutoLink_Plain (v : Value) (w : World) : (Instr.typeAssert (.iface 77 v) 42 51 true).run Try.prog w = .ok (.tuple #[.pointer none, .bool false]) w := by kernel_rfl
theorem asAutoLink_emphPlain (v : Value) (w : World) : (Instr.typeAssert (.iface 77 v) 42 104 true).run Try.prog w = .ok (.tuple #[.pointer none, .bool false]) w := by kernel_rfl
theorem asAutoLink_openPlain (v : Value) (w : World) : (Instr.typeAssert (.iface 77 v) 42 107 true).run Try.prog w = .ok (.tuple #[.pointer none, .bool false]) w := by kernel_rfl
theorem asAutoLink_Escaped (v : Value) (w : World) : (Instr.typeAssert (.iface 77 v) 42 55 true).run Try.prog w = .ok (.tuple #[.pointer none, .bool false]) w := by kernel_rfl
theorem asAutoLink_SoftBreak (v : Value) (w : World) : (Instr.typeAssert (.iface 77 v) 42 58 true).run Try.prog w = .ok (.tuple #[.pointer none, .bool false]) w := by kernel_rfl
theorem asAutoLink_HardBreak (v : Value) (w : World) : (Instr.typeAssert (.iface 77 v) 42 59 true).run Try.prog w = .ok (.tuple #[.pointer none, .bool false]) w := by kernel_rfl
theorem asAutoLink_Code (v : Value) (w : World) : (Instr.typeAssert (.iface 77 v) 42 60 true).run Try.prog w = .ok (.tuple #[.pointer none, .bool false]) w := by kernel_rfl
theorem asAutoLink_Emph (v : Value) (w : World) : (Instr.typeAssert (.iface 77 v) 42 62 true).run Try.prog w = .ok (.tuple #[.pointer none, .bool false]) w := by kernel_rfl
theorem asAutoLink_Strong (v : Value) (w : World) : (Instr.typeAssert (.iface 77 v) 42 67 true).run Try.prog w = .ok (.tuple #[.pointer none, .bool false]) w := by kernel_rfl
theorem asAutoLink_Del (v : Value) (w : World) : (Instr.typeAssert (.iface 77 v) 42 69 true).run Try.prog w = .ok (.tuple #[.pointer none, .bool false]) w := by kernel_rfl
theorem asAutoLink_Link (v : Value) (w : World) : (Instr.typeAssert (.iface 77 v) 42 71 true).run Try.prog w = .ok (.tuple #[.pointer none, .bool false]) w := by kernel_rfl
theorem asAutoLink_Image (v : Value) (w : World) : (Instr.typeAssert (.iface 77 v) 42 75 true).run Try.prog w = .ok (.tuple #[.pointer none, .bool false]) w := by kernel_rfl
theorem asAutoLink_AutoLink (v : Value) (w : World) : (Instr.typeAssert (.iface 77 v) 42 77 true).run Try.prog w = .ok (.tuple #[v, .bool true]) w := by kernel_rfl
/-- A Node of a kind and a text. -/
abbrev nodeCs (k : Int) (t : ByteArray) : Array Value := #[.int .i64 k, .string t, .string ⟨#[]⟩, .int .i64 0, .string ⟨#[]⟩, .bool false, .slice none 0 0, .slice none 0 0, .int .i64 0, .int .i64 0, .string ⟨#[]⟩, .int .i64 0, .bool false, .bool false, .bool false, .slice none 0 0]
abbrev nodeKT (k : Int) (t : ByteArray) : Value := .agg (nodeCs k t)
set_option maxRecDepth 100000 in
set_option maxHeartbeats 1000000 in
theorem inlineTag_any (g : Nat) (t : ByteArray) (w : World) (hc : w.cell? ⟨g, 0, none⟩ = some (.string t)) (hg : g < w.heap.size) :
    Calls Try.prog 32 #[.iface 80 (.pointer (some ⟨g, 0, none⟩))] w fun e w' => e = .returned (nodeKT 29 t) ∧ w.alloc (.cells (nodeCs 29 t) 28) = w' := by
  have asHTMLTag_Plain' := asHTMLTag_Plain
  have asHTMLTag_emphPlain' := asHTMLTag_emphPlain
  have asHTMLTag_openPlain' := asHTMLTag_openPlain
  have asHTMLTag_Escaped' := asHTMLTag_Escaped
  have asHTMLTag_SoftBreak' := asHTMLTag_SoftBreak
  have asHTMLTag_HardBreak' := asHTMLTag_HardBreak
  have asHTMLTag_Code' := asHTMLTag_Code
  have asHTMLTag_Emph' := asHTMLTag_Emph
  have asHTMLTag_Strong' := asHTMLTag_Strong
  have asHTMLTag_Del' := asHTMLTag_Del
  have asHTMLTag_Link' := asHTMLTag_Link
  have asHTMLTag_Image' := asHTMLTag_Image
  have asHTMLTag_AutoLink' := asHTMLTag_AutoLink
  have asHTMLTag_HTMLTag' := asHTMLTag_HTMLTag
  go_enter Try.func32, Try.ntmps32
  go_wp2
  exact bodyPost_ret (v := nodeKT 29 t) (by simp [results, Try.results32, go_sem]) rfl ⟨rfl, rfl⟩
set_option maxRecDepth 100000 in
set_option maxHeartbeats 1000000 in
theorem oneTag_yes (g : Nat) (t : ByteArray) (n : Int) (w : World) (hc : w.cell? ⟨g, 0, none⟩ = some (.string t)) (hg : g < w.heap.size) :
    Calls Try.prog 21 #[.iface 80 (.pointer (some ⟨g, 0, none⟩)), .int .i64 n, .bool true] w fun e w' => e = .returned (.tuple #[nodeKT 29 t, .int .i64 n, .bool true]) ∧ (w.alloc (.cells (nodeCs 29 t) 28)).alloc (.cells (nodeCs 29 t) 28) = w' := by
  go_enter Try.func21, Try.ntmps21
  go_wp2_with (go_at_call 32; refine (inlineTag_any g t _ (by rw [World.cell?_alloc_lt _ _ _ hg]; exact hc) (by simp; omega)).mono ?_; rintro e w1 ⟨rfl, rfl⟩)
  exact bodyPost_ret (v := .tuple #[nodeKT 29 t, .int .i64 n, .bool true]) (by simp [results, Try.results21, go_sem]) rfl ⟨rfl, rfl⟩
set_option maxRecDepth 100000 in
theorem one_no (x : Value) (n : Int) (w : World) :
    Calls Try.prog 21 #[x, .int .i64 n, .bool false] w fun e w' => e = .returned (.tuple #[nodeKT 0 ⟨#[]⟩, .int .i64 0, .bool false]) ∧ w.alloc (.cells (nodeCs 0 ⟨#[]⟩) 28) = w' := by
  go_enter Try.func21, Try.ntmps21
  go_wp2
  exact bodyPost_ret (v := .tuple #[nodeKT 0 ⟨#[]⟩, .int .i64 0, .bool false]) (by simp [results, Try.results21, go_sem]) rfl ⟨rfl, rfl⟩
end Go.Proofs.Ytbgikebimaijlaa
