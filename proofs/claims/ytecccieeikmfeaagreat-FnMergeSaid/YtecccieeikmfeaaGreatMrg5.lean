/- Inlines turned into nodes (plain texts, code spans); toPlain; the package's zzState. Conditions: as each states them. -/
import Derived.Test.YtecccieeikmfeaaGreatMrg4
namespace Go.Proofs.YtecccieeikmfeaaGreat
open Go.RowKit
theorem asPlain_Plain (v : Value) (w : World) : (Instr.typeAssert (.iface 50 v) 37 50 true).run Tryz.prog w = .ok (.tuple #[v, .bool true]) w := by kernel_rfl
theorem asCode_Plain (v : Value) (w : World) : (Instr.typeAssert (.iface 59 v) 37 50 true).run Tryz.prog w = .ok (.tuple #[.pointer none, .bool false]) w := by kernel_rfl
theorem asCode_emphPlain (v : Value) (w : World) : (Instr.typeAssert (.iface 59 v) 37 103 true).run Tryz.prog w = .ok (.tuple #[.pointer none, .bool false]) w := by kernel_rfl
theorem asCode_openPlain (v : Value) (w : World) : (Instr.typeAssert (.iface 59 v) 37 106 true).run Tryz.prog w = .ok (.tuple #[.pointer none, .bool false]) w := by kernel_rfl
theorem asCode_Escaped (v : Value) (w : World) : (Instr.typeAssert (.iface 59 v) 37 54 true).run Tryz.prog w = .ok (.tuple #[.pointer none, .bool false]) w := by kernel_rfl
theorem asCode_SoftBreak (v : Value) (w : World) : (Instr.typeAssert (.iface 59 v) 37 57 true).run Tryz.prog w = .ok (.tuple #[.pointer none, .bool false]) w := by kernel_rfl
theorem asCode_HardBreak (v : Value) (w : World) : (Instr.typeAssert (.iface 59 v) 37 58 true).run Tryz.prog w = .ok (.tuple #[.pointer none, .bool false]) w := by kernel_rfl
theorem asCode_Code (v : Value) (w : World) : (Instr.typeAssert (.iface 59 v) 37 59 true).run Tryz.prog w = .ok (.tuple #[v, .bool true]) w := by kernel_rfl
theorem toPlain_plain (g : Nat) (w : World) : Calls Tryz.prog 18 #[.iface 50 (ptr g)] w fun e w' => e = .returned (ptr g) ∧ w = w' := by
  have asPlain_Plain' := asPlain_Plain
  go_enter Tryz.func18, Tryz.ntmps18
  go_wp2
  go_ret
  exact ⟨rfl, rfl⟩
theorem toPlain_code (g : Nat) (w : World) : Calls Tryz.prog 18 #[.iface 59 (ptr g)] w fun e w' => e = .returned (.pointer none) ∧ w = w' := by
  have asCode_Plain' := asCode_Plain
  have asCode_emphPlain' := asCode_emphPlain
  have asCode_openPlain' := asCode_openPlain
  have asCode_Escaped' := asCode_Escaped
  have asCode_SoftBreak' := asCode_SoftBreak
  have asCode_HardBreak' := asCode_HardBreak
  have asCode_Code' := asCode_Code
  go_enter Tryz.func18, Tryz.ntmps18
  go_wp2
  go_ret
  exact ⟨rfl, rfl⟩
theorem zzPlain_plain (g : Nat) (w : World) : Calls Tryz.prog 16 #[.iface 50 (ptr g)] w fun e w' => e = .returned (ptr g) ∧ w = w' := by
  go_enter Tryz.func16, Tryz.ntmps16
  go_wp2_with (go_at_call 18; refine (toPlain_plain _ _).mono ?_; rintro e w' ⟨rfl, rfl⟩)
  go_ret
  exact ⟨rfl, rfl⟩
theorem zzPlain_code (g : Nat) (w : World) : Calls Tryz.prog 16 #[.iface 59 (ptr g)] w fun e w' => e = .returned (.pointer none) ∧ w = w' := by
  go_enter Tryz.func16, Tryz.ntmps16
  go_wp2_with (go_at_call 18; refine (toPlain_code _ _).mono ?_; rintro e w' ⟨rfl, rfl⟩)
  go_ret
  exact ⟨rfl, rfl⟩
set_option maxRecDepth 100000 in
set_option maxHeartbeats 1000000 in
theorem inlinePlain_any (g : Nat) (t : ByteArray) (w : World) (hc : w.cell? ⟨g, 0, none⟩ = some (.string t)) (hg : g < w.heap.size) :
    Calls Tryz.prog 11 #[.iface 50 (ptr g)] w fun e w' => e = .returned (.agg (nodeCs 20 t)) ∧ w.alloc (.cells (nodeCs 20 t) 26) = w' := by
  go_enter Tryz.func11, Tryz.ntmps11
  go_wp2_with (go_at_call 16; refine (zzPlain_plain _ _).mono ?_; rintro e w' ⟨rfl, rfl⟩)
  exact bodyPost_ret (v := .agg (nodeCs 20 t)) (by simp [results, Tryz.results11, go_sem]) rfl ⟨rfl, rfl⟩
set_option maxRecDepth 100000 in
set_option maxHeartbeats 1000000 in
theorem inlineCode_any (g : Nat) (t : ByteArray) (w : World) (hc : w.cell? ⟨g, 0, none⟩ = some (.string t)) (hg : g < w.heap.size) :
    Calls Tryz.prog 11 #[.iface 59 (ptr g)] w fun e w' => e = .returned (.agg (nodeCs 23 t)) ∧ w.alloc (.cells (nodeCs 23 t) 26) = w' := by
  have asCode_Plain' := asCode_Plain
  have asCode_emphPlain' := asCode_emphPlain
  have asCode_openPlain' := asCode_openPlain
  have asCode_Escaped' := asCode_Escaped
  have asCode_SoftBreak' := asCode_SoftBreak
  have asCode_HardBreak' := asCode_HardBreak
  have asCode_Code' := asCode_Code
  go_enter Tryz.func11, Tryz.ntmps11
  go_wp2_with (go_at_call 16; refine (zzPlain_code _ _).mono ?_; rintro e w' ⟨rfl, rfl⟩)
  exact bodyPost_ret (v := .agg (nodeCs 23 t)) (by simp [results, Tryz.results11, go_sem]) rfl ⟨rfl, rfl⟩
set_option maxRecDepth 100000 in
theorem zzState_any (w : World) : Calls Tryz.prog 12 #[] w fun e w' => e = .returned (.pointer (some ⟨w.heap.size + 2, 0, none⟩)) ∧ Below w.heap.size w w' := by
  have hmm := @run_makeMap Tryz.prog
  go_enter Tryz.func12, Tryz.ntmps12
  go_wp2
  go_ret
  exact ⟨rfl, by go_grown⟩
end Go.Proofs.YtecccieeikmfeaaGreat
