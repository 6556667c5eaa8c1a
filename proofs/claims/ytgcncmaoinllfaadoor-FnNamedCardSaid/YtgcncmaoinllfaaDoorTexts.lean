/- Contracts of the functions that ask a text for its bytes (strings.IndexByte, only, printable, seven, lined): each returns the plain Lean function of the text and leaves the world alone. Conditions: a text's size is at most 2^63 - 1. -/
import Derived.Test.YtgcncmaoinllfaaDoorProg
import Derived.Test.YtgcncmaoinllfaaDoorBase
namespace Go.Proofs.YtgcncmaoinllfaaDoor
open Go.RowKit
theorem slIndexByte_any (s : ByteArray) (c : Int) (w : World) : Calls Tryd.prog 14 #[.string s, .int .u8 c] w fun e w' => e = .returned (.int .i64 (Lib.indexByte s.data.toList (UInt8.ofNat c.toNat))) ∧ w = w' := by
  go_enter Tryd.func14, Tryd.ntmps14
  go_wp2
  rw [run_callFunc_extern Tryd.func16 (by kernel_rfl) (by kernel_rfl) (by kernel_rfl) (e := Extern.BytealgIndexByte.indexByte) (by kernel_rfl), Lib.run_indexByteString]
  simp only [Result.andThen]
  rw [Oper.upon_value]
  go_wp2
  go_ret
  exact ⟨rfl, rfl⟩
theorem indexByte_any (s : ByteArray) (c : Int) (w : World) : Calls Tryd.prog 7 #[.string s, .int .u8 c] w fun e w' => e = .returned (.int .i64 (Lib.indexByte s.data.toList (UInt8.ofNat c.toNat))) ∧ w = w' := by
  go_enter Tryd.func7, Tryd.ntmps7
  go_wp2_with (go_at_call 14; refine (slIndexByte_any _ _ _).mono ?_; rintro e w' ⟨rfl, rfl⟩)
  go_ret
  exact ⟨rfl, rfl⟩
def onlyB (s A : ByteArray) (most : Int) : Bool := decide ((s.size : Int) ≤ most) && allB s.size (fun k => inA A (bt s k))
set_option maxHeartbeats 400000 in
theorem only_any (s A : ByteArray) (most : Int) (w : World) (hs : s.size ≤ maxLen) : Calls Tryd.prog 4 #[.string s, .string A, .int .i64 most] w fun e w' => e = .returned (.bool (onlyB s A most)) ∧ w = w' := by
  unfold maxLen at hs
  have hb := get_bt s
  by_cases hm : (s.size : Int) ≤ most
  · have hN : (most < (s.size : Int)) = False := by simp; omega
    go_enter Tryd.func4, Tryd.ntmps4
    go_wp2
    go_loop [14] (fun i => ∃ k : Nat, k ≤ s.size ∧ i = .int .i64 k ∧ Hid (∀ j, j < k → inA A (bt s j) = true)) (fun i => s.size - (intOf i).toNat)
    case atStart => exact ⟨0, by omega, rfl, fun j h => absurd h (by omega)⟩
    case round =>
      obtain ⟨k, hk, rfl, hn⟩ := hrel
      by_cases hlt : k < s.size
      · by_cases hA : inA A (bt s k) = true
        · have h0 := inA_idx A (bt s k)
          rw [hA] at h0
          have h1 : ¬ Lib.indexByte A.data.toList (UInt8.ofNat (bt s k).toNat) < 0 := by simpa using h0
          clear h0
          go_wp2_with (go_at_call 7; refine (indexByte_any _ _ _).mono ?_; rintro e w' ⟨rfl, rfl⟩)
          go_round
          case rel =>
            refine ⟨k + 1, by omega, by go_num, fun j hj => ?_⟩
            by_cases e : j = k
            · subst e; exact hA
            · exact hn j (by omega)
          case measure => simp [intOf]; omega
        · have hA : inA A (bt s k) = false := by simpa using hA
          have h0 := inA_idx A (bt s k)
          rw [hA] at h0
          have h1 : Lib.indexByte A.data.toList (UInt8.ofNat (bt s k).toNat) < 0 := by simpa using h0
          clear h0
          go_wp2_with (go_at_call 7; refine (indexByte_any _ _ _).mono ?_; rintro e w' ⟨rfl, rfl⟩)
          go_ret
          exact ⟨ret_bool (by unfold onlyB; rw [allB_no hlt hA]; simp), rfl⟩
      · obtain rfl : k = s.size := by omega
        go_wp2
        go_ret
        exact ⟨ret_bool (by unfold onlyB; rw [allB_yes (fun j hj => hn j hj)]; simp [hm]), rfl⟩
  · have hm' : most < (s.size : Int) := by omega
    clear hm
    go_enter Tryd.func4, Tryd.ntmps4
    go_wp2
    go_ret
    exact ⟨ret_bool (by unfold onlyB; rw [decide_eq_false (by omega)]; rfl), rfl⟩
end Go.Proofs.YtgcncmaoinllfaaDoor
