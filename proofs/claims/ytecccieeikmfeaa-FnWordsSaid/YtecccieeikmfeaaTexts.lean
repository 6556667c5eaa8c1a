/- Contracts of the functions that ask a text for its bytes (strings.IndexByte, only, printable, seven, lined): each returns the plain Lean function of the text and leaves the world alone. Conditions: a text's size is at most 2^63 - 1. -/
import Derived.Test.YtecccieeikmfeaaProg
import Derived.Test.YtecccieeikmfeaaBase
namespace Go.Proofs.Ytecccieeikmfeaa
open Go.RowKit
def printB (s : ByteArray) (most : Int) : Bool := decide ((s.size : Int) ≤ most) && allB s.size (fun k => decide (32 ≤ bt s k ∧ bt s k ≤ 126))
set_option maxHeartbeats 400000 in
theorem printable_any (s : ByteArray) (most : Int) (w : World) (hs : s.size ≤ maxLen) : Calls Try.prog 6 #[.string s, .int .i64 most] w fun e w' => e = .returned (.bool (printB s most)) ∧ w = w' := by
  unfold maxLen at hs
  have hb := get_bt s
  by_cases hm : (s.size : Int) ≤ most
  · go_enter Try.func6, Try.ntmps6
    go_wp2
    go_loop [12] (fun i => ∃ k : Nat, k ≤ s.size ∧ i = .int .i64 k ∧ Hid (∀ j, j < k → decide (32 ≤ bt s j ∧ bt s j ≤ 126) = true)) (fun i => s.size - (intOf i).toNat)
    case atStart => exact ⟨0, by omega, rfl, fun j h => absurd h (by omega)⟩
    case round =>
      obtain ⟨k, hk, rfl, hn⟩ := hrel
      by_cases hlt : k < s.size
      · by_cases hA : 32 ≤ bt s k ∧ bt s k ≤ 126
        · obtain ⟨h1, h2⟩ := hA
          go_wp2
          go_round
          case rel =>
            refine ⟨k + 1, by omega, by go_num, fun j hj => ?_⟩
            by_cases e : j = k
            · subst e; simp [h1, h2]
            · exact hn j (by omega)
          case measure => simp [intOf]; omega
        · have hA2 := hide (allB_no (p := fun k => decide (32 ≤ bt s k ∧ bt s k ≤ 126)) hlt (by simpa using hA))
          by_cases h1 : 32 ≤ bt s k
          · have h2 : 126 < bt s k := by omega
            clear hA
            go_wp2
            go_ret
            exact ⟨ret_bool (by unfold printB; rw [hA2.out]; simp), rfl⟩
          · have h2 : bt s k < 32 := by omega
            clear hA h1
            go_wp2
            go_ret
            exact ⟨ret_bool (by unfold printB; rw [hA2.out]; simp), rfl⟩
      · obtain rfl : k = s.size := by omega
        go_wp2
        go_ret
        exact ⟨ret_bool (by unfold printB; rw [allB_yes (fun j hj => hn j hj)]; simp [hm]), rfl⟩
  · have hm' : most < (s.size : Int) := by omega
    clear hm
    go_enter Try.func6, Try.ntmps6
    go_wp2
    go_ret
    exact ⟨ret_bool (by unfold printB; rw [decide_eq_false (by omega)]; rfl), rfl⟩
end Go.Proofs.Ytecccieeikmfeaa
