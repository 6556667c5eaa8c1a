/- Contracts of the functions that ask a text for its bytes (strings.IndexByte, only, printable, seven, lined): each returns the plain Lean function of the text and leaves the world alone. Conditions: a text's size is at most 2^63 - 1. -/
import Derived.Test.YtbgikebimaijlaaProg
import Derived.Test.YtbgikebimaijlaaBase
namespace Go.Proofs.Ytbgikebimaijlaa
open Go.RowKit
set_option maxRecDepth 100000 in
theorem slIndexByte_any (s : ByteArray) (c : Int) (w : World) : Calls Try.prog 61 #[.string s, .int .u8 c] w fun e w' => e = .returned (.int .i64 (Lib.indexByte s.data.toList (UInt8.ofNat c.toNat))) ∧ w = w' := by
  go_enter Try.func61, Try.ntmps61
  go_wp2
  rw [run_callFunc_extern Try.func62 (by kernel_rfl) (by kernel_rfl) (by kernel_rfl) (e := Extern.BytealgIndexByte.indexByte) (by kernel_rfl), Lib.run_indexByteString]
  simp only [Result.andThen]
  rw [Oper.upon_value]
  go_wp2
  go_ret
  exact ⟨rfl, rfl⟩
theorem indexByte_any (s : ByteArray) (c : Int) (w : World) : Calls Try.prog 60 #[.string s, .int .u8 c] w fun e w' => e = .returned (.int .i64 (Lib.indexByte s.data.toList (UInt8.ofNat c.toNat))) ∧ w = w' := by
  go_enter Try.func60, Try.ntmps60
  go_wp2_with (go_at_call 61; refine (slIndexByte_any _ _ _).mono ?_; rintro e w' ⟨rfl, rfl⟩)
  go_ret
  exact ⟨rfl, rfl⟩
end Go.Proofs.Ytbgikebimaijlaa
