/- The contract of skipSpace: it returns the place behind the spaces, tabs and line feeds from a place on. Conditions: the place lies within the text, or at its end. -/
import Derived.Test.YtfmclgmcadiikaaGreatProg
import Derived.Test.YtfmclgmcadiikaaGreatBase
namespace Go.Proofs.YtfmclgmcadiikaaGreat
open Go.RowKit
set_option maxHeartbeats 400000 in
theorem skipSpace_any (s : ByteArray) (i : Nat) (w : World) (hs : s.size ≤ maxLen) (hi : i ≤ s.size) : Calls Tryz.prog 37 #[.string s, .int .i64 i] w fun e w' => e = .returned (.int .i64 (scan blB s i : Nat)) ∧ w = w' := by
  unfold maxLen at hs
  have hb := get_bt s
  go_enter Tryz.func37, Tryz.ntmps37
  go_wp2
  go_loop [1] (fun i' => ∃ k : Nat, i ≤ k ∧ k ≤ s.size ∧ i' = .int .i64 k ∧ Hid (∀ j, i ≤ j → j < k → blB (bt s j) = true)) (fun i => s.size - (intOf i).toNat)
  case atStart => exact ⟨i, by omega, by omega, rfl, fun j h h' => absurd h (by omega)⟩
  case round =>
    obtain ⟨k, hik, hk, rfl, hn⟩ := hrel
    by_cases hlt : k < s.size
    · by_cases hA : blB (bt s k) = true
      · have hA2 := hide hA
        have h0 : bt s k = 32 ∨ bt s k = 9 ∨ bt s k = 10 := by simpa [blB] using hA
        clear hA
        have hend : ∀ j, i ≤ j → j < k + 1 → blB (bt s j) = true := by
          intro j h1 h2
          by_cases e : j = k
          · subst e; exact hA2.out
          · exact hn j h1 (by omega)
        have hE := hide hend
        clear hend
        rcases h0 with h0 | h0 | h0
        all_goals
          go_wp2
          go_round
          case rel => exact ⟨k + 1, by omega, by omega, by go_num, hE⟩
          case measure => simp [intOf]; omega
      · have hA : blB (bt s k) = false := by simpa using hA
        have hA2 := hide hA
        have h0 : ¬ (bt s k = 32 ∨ bt s k = 9 ∨ bt s k = 10) := by simpa [blB] using hA
        have h1 : (bt s k == 32) = false := by simp; omega
        have h2 : (bt s k == 9) = false := by simp; omega
        have h3 : (bt s k == 10) = false := by simp; omega
        clear hA h0
        go_wp2
        go_ret
        exact ⟨ret_int (by rw [scan_eq hik hk (fun j a b => hn j a b) (.inr hA2.out)]), rfl⟩
    · obtain rfl : k = s.size := by omega
      go_wp2
      go_ret
      exact ⟨ret_int (by rw [scan_eq hik hk (fun j a b => hn j a b) (.inl rfl)]), rfl⟩
end Go.Proofs.YtfmclgmcadiikaaGreat
