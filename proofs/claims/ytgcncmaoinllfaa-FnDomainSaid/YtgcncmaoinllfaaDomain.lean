/- Contracts of word, isLDH and parseValidDomain (at a place from which letters, digits and full stops stand up to a space). Conditions: as each states them; a text's size is at most 2^63 - 1. -/
import Derived.Test.YtgcncmaoinllfaaProg
import Derived.Test.YtgcncmaoinllfaaBase
import Derived.Test.YtgcncmaoinllfaaChars
import Derived.Test.YtgcncmaoinllfaaTexts
namespace Go.Proofs.Ytgcncmaoinllfaa
open Go.RowKit
abbrev wA : ByteArray := ⟨#[97, 98, 122, 48, 49, 57]⟩
def wordB (s : ByteArray) : Bool := decide (0 < s.size) && onlyB s wA 20
theorem word_any (s : ByteArray) (w : World) (hs : s.size ≤ maxLen) : Calls Try.prog 22 #[.string s] w fun e w' => e = .returned (.bool (wordB s)) ∧ w = w' := by
  by_cases h : 0 < s.size
  · have hne := nonempty_of h
    go_enter Try.func22, Try.ntmps22
    go_wp2_with (go_at_call 12; refine (only_any _ _ _ _ hs).mono ?_; rintro e w' ⟨rfl, rfl⟩)
    go_ret
    exact ⟨ret_bool (by unfold wordB; rw [decide_eq_true h]; rfl), rfl⟩
  · have hne := empty_of (show s.size = 0 by omega)
    go_enter Try.func22, Try.ntmps22
    go_wp2_with (go_at_call 12; refine (only_any _ _ _ _ hs).mono ?_; rintro e w' ⟨rfl, rfl⟩)
    go_ret
    exact ⟨ret_bool (by unfold wordB; rw [decide_eq_false h]; rfl), rfl⟩
theorem isLDH_any (c : Int) (w : World) : Calls Try.prog 53 #[.int .u8 c] w fun e w' => e = .returned (.bool (ldB c || decide (c = 45))) ∧ w = w' := by
  by_cases hl : ldB c = true
  · go_enter Try.func53, Try.ntmps53
    go_wp2_with (go_at_call 51; refine (isLetterDigit_any _ _).mono ?_; rintro e w' ⟨rfl, rfl⟩)
    go_ret
    exact ⟨ret_bool (by simp [hl]), rfl⟩
  · have hl : ldB c = false := by simpa using hl
    go_enter Try.func53, Try.ntmps53
    go_wp2_with (go_at_call 51; refine (isLetterDigit_any _ _).mono ?_; rintro e w' ⟨rfl, rfl⟩)
    go_ret
    exact ⟨ret_bool (by rw [Bool.eq_iff_iff]; simp [hl]), rfl⟩
theorem ld_95 {c : Int} (h : ldB c = true) : c ≠ 95 ∧ c ≠ 46 := by
  simp [ldB] at h; omega
set_option maxHeartbeats 1000000 in
theorem parseVD_any (s : ByteArray) (i m : Nat) (g : Nat) (w : World) (hs : s.size ≤ maxLen) (him : i < m) (hm : m < s.size)
    (ha : ∀ k, i ≤ k → k < m → ldB (bt s k) = true ∨ bt s k = 46) (he : bt s m = 32)
    (h0 : w.cell? ⟨g, 0, none⟩ = some (.string s)) (h1 : w.cell? ⟨g, 1, none⟩ = some (.int .i64 0)) :
    Calls Try.prog 47 #[.pointer (some ⟨g, 0, none⟩), .int .i64 i] w fun e w' => e = .returned (.tuple #[.int .i64 ((m - i : Nat) : Int), .bool true]) ∧ w = w' := by
  unfold maxLen at hs
  have hb := get_bt s
  have HA := hide ha
  have HE := hide he
  clear ha he
  go_enter Try.func47, Try.ntmps47
  go_wp2
  go_loop [6, 7] (fun i' d => ∃ (k : Nat) (n : Nat), i ≤ k ∧ k ≤ m ∧ n ≤ k ∧ i' = .int .i64 k ∧ d = .int .i64 n) (fun i _ => s.size - (intOf i).toNat)
  case atStart => exact ⟨i, 0, by omega, by omega, by omega, rfl, rfl⟩
  case round =>
    obtain ⟨k, n, hik, hkm, hnk, rfl, rfl⟩ := hrel
    have hlt : k < s.size := by omega
    by_cases hk : k < m
    · have h2 := HA.out k hik hk
      rcases h2 with h2 | h2
      · obtain ⟨h3, h4⟩ := ld_95 h2
        have c3 : (bt s k == 95) = false := by simp [h3]
        have c4 : (bt s k == 46) = false := by simp [h4]
        clear h3 h4
        go_wp2_with (go_at_call 53; refine (isLDH_any _ _).mono ?_; rintro e w' ⟨rfl, rfl⟩)
        go_round
        case rel => exact ⟨k + 1, n, by omega, by omega, by omega, by go_num, rfl⟩
        case measure => simp [intOf]; omega
      · have c3 : (bt s k == 95) = false := by simp [h2]
        have c4 : (bt s k == 46) = true := by simp [h2]
        clear h2
        go_wp2
        go_round
        case rel => exact ⟨k + 1, n + 1, by omega, by omega, by omega, by go_num, by go_num⟩
        case measure => simp [intOf]; omega
    · obtain rfl : k = m := by omega
      have h5 : (ldB (bt s k) || decide (bt s k = 45)) = false := by rw [HE.out]; decide
      have c3 : (bt s k == 95) = false := by rw [HE.out]; decide
      have c4 : (bt s k == 46) = false := by rw [HE.out]; decide
      go_wp2_with (go_at_call 53; refine (isLDH_any _ _).mono ?_; rw [h5]; rintro e w' ⟨rfl, rfl⟩)
      go_ret2
      exact ⟨ret_int2 (by omega), rfl⟩
end Go.Proofs.Ytgcncmaoinllfaa
