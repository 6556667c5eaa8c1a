/- Contracts of the functions that ask a text for its bytes (strings.IndexByte, only, printable, seven, lined): each returns the plain Lean function of the text and leaves the world alone. Conditions: a text's size is at most 2^63 - 1. -/
import Derived.Test.YtgcncmaoinllfaaProg
import Derived.Test.YtgcncmaoinllfaaBase
namespace Go.Proofs.Ytgcncmaoinllfaa
open Go.RowKit
theorem slIndexByte_any (s : ByteArray) (c : Int) (w : World) : Calls Try.prog 40 #[.string s, .int .u8 c] w fun e w' => e = .returned (.int .i64 (Lib.indexByte s.data.toList (UInt8.ofNat c.toNat))) ∧ w = w' := by
  go_enter Try.func40, Try.ntmps40
  go_wp2
  rw [run_callFunc_extern Try.func50 (by kernel_rfl) (by kernel_rfl) (by kernel_rfl) (e := Extern.BytealgIndexByte.indexByte) (by kernel_rfl), Lib.run_indexByteString]
  simp only [Result.andThen]
  rw [Oper.upon_value]
  go_wp2
  go_ret
  exact ⟨rfl, rfl⟩
theorem indexByte_any (s : ByteArray) (c : Int) (w : World) : Calls Try.prog 30 #[.string s, .int .u8 c] w fun e w' => e = .returned (.int .i64 (Lib.indexByte s.data.toList (UInt8.ofNat c.toNat))) ∧ w = w' := by
  go_enter Try.func30, Try.ntmps30
  go_wp2_with (go_at_call 40; refine (slIndexByte_any _ _ _).mono ?_; rintro e w' ⟨rfl, rfl⟩)
  go_ret
  exact ⟨rfl, rfl⟩
def onlyB (s A : ByteArray) (most : Int) : Bool := decide ((s.size : Int) ≤ most) && allB s.size (fun k => inA A (bt s k))
set_option maxHeartbeats 400000 in
theorem only_any (s A : ByteArray) (most : Int) (w : World) (hs : s.size ≤ maxLen) : Calls Try.prog 12 #[.string s, .string A, .int .i64 most] w fun e w' => e = .returned (.bool (onlyB s A most)) ∧ w = w' := by
  unfold maxLen at hs
  have hb := get_bt s
  by_cases hm : (s.size : Int) ≤ most
  · have hN : (most < (s.size : Int)) = False := by simp; omega
    go_enter Try.func12, Try.ntmps12
    go_wp2
    go_loop [14] (fun i => ∃ k : Nat, k ≤ s.size ∧ i = .int .i64 k ∧ Hid (∀ j, j < k → inA A (bt s j) = true)) (fun i => s.size - (intOf i).toNat)
    case atStart => exact ⟨0, by omega, rfl, fun j h => absurd h (by omega)⟩
    case round =>
      obtain ⟨k, hk, rfl, hn⟩ := hrel
      by_cases hlt : k < s.size
      · by_cases hA : inA A (bt s k) = true
        · have h0 := inA_idx A (bt s k)
          rw [hA] at h0
          have h1 : ¬ Lib.indexByte A.data.toList (UInt8.ofNat (bt s k).toNat) < 0 := by simpa using h0
          clear h0
          go_wp2_with (go_at_call 30; refine (indexByte_any _ _ _).mono ?_; rintro e w' ⟨rfl, rfl⟩)
          go_round
          case rel =>
            refine ⟨k + 1, by omega, by go_num, fun j hj => ?_⟩
            by_cases e : j = k
            · subst e; exact hA
            · exact hn j (by omega)
          case measure => simp [intOf]; omega
        · have hA : inA A (bt s k) = false := by simpa using hA
          have h0 := inA_idx A (bt s k)
          rw [hA] at h0
          have h1 : Lib.indexByte A.data.toList (UInt8.ofNat (bt s k).toNat) < 0 := by simpa using h0
          clear h0
          go_wp2_with (go_at_call 30; refine (indexByte_any _ _ _).mono ?_; rintro e w' ⟨rfl, rfl⟩)
          go_ret
          exact ⟨ret_bool (by unfold onlyB; rw [allB_no hlt hA]; simp), rfl⟩
      · obtain rfl : k = s.size := by omega
        go_wp2
        go_ret
        exact ⟨ret_bool (by unfold onlyB; rw [allB_yes (fun j hj => hn j hj)]; simp [hm]), rfl⟩
  · have hm' : most < (s.size : Int) := by omega
    clear hm
    go_enter Try.func12, Try.ntmps12
    go_wp2
    go_ret
    exact ⟨ret_bool (by unfold onlyB; rw [decide_eq_false (by omega)]; rfl), rfl⟩
def printB (s : ByteArray) (most : Int) : Bool := decide ((s.size : Int) ≤ most) && allB s.size (fun k => decide (32 ≤ bt s k ∧ bt s k ≤ 126))
set_option maxHeartbeats 400000 in
theorem printable_any (s : ByteArray) (most : Int) (w : World) (hs : s.size ≤ maxLen) : Calls Try.prog 10 #[.string s, .int .i64 most] w fun e w' => e = .returned (.bool (printB s most)) ∧ w = w' := by
  unfold maxLen at hs
  have hb := get_bt s
  by_cases hm : (s.size : Int) ≤ most
  · go_enter Try.func10, Try.ntmps10
    go_wp2
    go_loop [12] (fun i => ∃ k : Nat, k ≤ s.size ∧ i = .int .i64 k ∧ Hid (∀ j, j < k → decide (32 ≤ bt s j ∧ bt s j ≤ 126) = true)) (fun i => s.size - (intOf i).toNat)
    case atStart => exact ⟨0, by omega, rfl, fun j h => absurd h (by omega)⟩
    case round =>
      obtain ⟨k, hk, rfl, hn⟩ := hrel
      by_cases hlt : k < s.size
      · by_cases hA : 32 ≤ bt s k ∧ bt s k ≤ 126
        · obtain ⟨h1, h2⟩ := hA
          go_wp2
          go_round
          case rel =>
            refine ⟨k + 1, by omega, by go_num, fun j hj => ?_⟩
            by_cases e : j = k
            · subst e; simp [h1, h2]
            · exact hn j (by omega)
          case measure => simp [intOf]; omega
        · have hA2 := hide (allB_no (p := fun k => decide (32 ≤ bt s k ∧ bt s k ≤ 126)) hlt (by simpa using hA))
          by_cases h1 : 32 ≤ bt s k
          · have h2 : 126 < bt s k := by omega
            clear hA
            go_wp2
            go_ret
            exact ⟨ret_bool (by unfold printB; rw [hA2.out]; simp), rfl⟩
          · have h2 : bt s k < 32 := by omega
            clear hA h1
            go_wp2
            go_ret
            exact ⟨ret_bool (by unfold printB; rw [hA2.out]; simp), rfl⟩
      · obtain rfl : k = s.size := by omega
        go_wp2
        go_ret
        exact ⟨ret_bool (by unfold printB; rw [allB_yes (fun j hj => hn j hj)]; simp [hm]), rfl⟩
  · have hm' : most < (s.size : Int) := by omega
    clear hm
    go_enter Try.func10, Try.ntmps10
    go_wp2
    go_ret
    exact ⟨ret_bool (by unfold printB; rw [decide_eq_false (by omega)]; rfl), rfl⟩
end Go.Proofs.Ytgcncmaoinllfaa
