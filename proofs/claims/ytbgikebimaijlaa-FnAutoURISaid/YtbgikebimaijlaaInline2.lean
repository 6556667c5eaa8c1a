/- Contracts of the thin package's inline and one where the inline is an autolink. Conditions: as each states them. -/
import Derived.Test.YtbgikebimaijlaaInline
namespace Go.Proofs.Ytbgikebimaijlaa
open Go.RowKit
/-- The Node of an autolink, its one kid at a place. -/
abbrev nodeAC (t : ByteArray) (n : Nat) : Array Value := #[.int .i64 27, .string t, .string ⟨#[]⟩, .int .i64 0, .string ⟨#[]⟩, .bool false, .slice none 0 0, .slice (some ⟨n, 0, none⟩) 1 1, .int .i64 0, .int .i64 0, .string ⟨#[]⟩, .int .i64 0, .bool false, .bool false, .bool true, .slice none 0 0]
set_option maxRecDepth 100000 in
set_option maxHeartbeats 1000000 in
theorem inlineAuto_any (g : Nat) (t : ByteArray) (w : World) (hc : w.cell? ⟨g, 0, none⟩ = some (.string t)) (hc1 : w.cell? ⟨g, 1, none⟩ = some (.string t)) (hg : g < w.heap.size) :
    Calls Try.prog 32 #[.iface 77 (.pointer (some ⟨g, 0, none⟩))] w fun e w' => e = .returned (.agg (nodeAC t (w.heap.size + 1))) ∧ ((w.alloc (.cells (nodeAC t (w.heap.size + 1)) 28)).alloc (.cells (nodeCs 20 t) 28)).drew = w' := by
  have asAutoLink_Plain' := asAutoLink_Plain
  have asAutoLink_emphPlain' := asAutoLink_emphPlain
  have asAutoLink_openPlain' := asAutoLink_openPlain
  have asAutoLink_Escaped' := asAutoLink_Escaped
  have asAutoLink_SoftBreak' := asAutoLink_SoftBreak
  have asAutoLink_HardBreak' := asAutoLink_HardBreak
  have asAutoLink_Code' := asAutoLink_Code
  have asAutoLink_Emph' := asAutoLink_Emph
  have asAutoLink_Strong' := asAutoLink_Strong
  have asAutoLink_Del' := asAutoLink_Del
  have asAutoLink_Link' := asAutoLink_Link
  have asAutoLink_Image' := asAutoLink_Image
  have asAutoLink_AutoLink' := asAutoLink_AutoLink
  go_enter Try.func32, Try.ntmps32
  go_wp2
  go_region
  all_goals
    go_wp2
    exact bodyPost_ret (v := .agg (nodeAC t (w.heap.size + 1))) (by simp [results, Try.results32, go_sem]) rfl ⟨rfl, rfl⟩
set_option maxRecDepth 100000 in
set_option maxHeartbeats 1000000 in
theorem oneAuto_yes (g : Nat) (t : ByteArray) (n : Int) (w : World) (hc : w.cell? ⟨g, 0, none⟩ = some (.string t)) (hc1 : w.cell? ⟨g, 1, none⟩ = some (.string t)) (hg : g < w.heap.size) :
    Calls Try.prog 21 #[.iface 77 (.pointer (some ⟨g, 0, none⟩)), .int .i64 n, .bool true] w fun e w' => e = .returned (.tuple #[.agg (nodeAC t (w.heap.size + 1 + 1)), .int .i64 n, .bool true]) ∧ (((w.alloc (.cells (nodeAC t (w.heap.size + 1 + 1)) 28)).alloc (.cells (nodeAC t (w.heap.size + 1 + 1)) 28)).alloc (.cells (nodeCs 20 t) 28)).drew = w' := by
  go_enter Try.func21, Try.ntmps21
  go_wp2_with (go_at_call 32; refine (inlineAuto_any g t _ (by rw [World.cell?_alloc_lt _ _ _ hg]; exact hc) (by rw [World.cell?_alloc_lt _ _ _ hg]; exact hc1) (by simp; omega)).mono ?_; rintro e w1 ⟨rfl, rfl⟩)
  exact bodyPost_ret (v := .tuple #[.agg (nodeAC t (w.heap.size + 1 + 1)), .int .i64 n, .bool true]) (by simp [results, Try.results21, go_sem]) rfl ⟨rfl, rfl⟩
end Go.Proofs.Ytbgikebimaijlaa
