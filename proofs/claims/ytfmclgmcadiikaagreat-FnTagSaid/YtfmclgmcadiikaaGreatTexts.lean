/- Contracts of the functions that ask a text for its bytes (strings.IndexByte, only, printable, seven, lined): each returns the plain Lean function of the text and leaves the world alone. Conditions: a text's size is at most 2^63 - 1. -/
import Derived.Test.YtfmclgmcadiikaaGreatProg
import Derived.Test.YtfmclgmcadiikaaGreatBase
namespace Go.Proofs.YtfmclgmcadiikaaGreat
open Go.RowKit
set_option maxRecDepth 100000 in
theorem slIndexByte_any (s : ByteArray) (c : Int) (w : World) : Calls Tryz.prog 50 #[.string s, .int .u8 c] w fun e w' => e = .returned (.int .i64 (Lib.indexByte s.data.toList (UInt8.ofNat c.toNat))) ∧ w = w' := by
  go_enter Tryz.func50, Tryz.ntmps50
  go_wp2
  rw [run_callFunc_extern Tryz.func51 (by kernel_rfl) (by kernel_rfl) (by kernel_rfl) (e := Extern.BytealgIndexByte.indexByte) (by kernel_rfl), Lib.run_indexByteString]
  simp only [Result.andThen]
  rw [Oper.upon_value]
  go_wp2
  go_ret
  exact ⟨rfl, rfl⟩
theorem indexByte_any (s : ByteArray) (c : Int) (w : World) : Calls Tryz.prog 49 #[.string s, .int .u8 c] w fun e w' => e = .returned (.int .i64 (Lib.indexByte s.data.toList (UInt8.ofNat c.toNat))) ∧ w = w' := by
  go_enter Tryz.func49, Tryz.ntmps49
  go_wp2_with (go_at_call 50; refine (slIndexByte_any _ _ _).mono ?_; rintro e w' ⟨rfl, rfl⟩)
  go_ret
  exact ⟨rfl, rfl⟩
end Go.Proofs.YtfmclgmcadiikaaGreat
