/- Contracts of the functions on single bytes (isLetterDigit, isLDH, isTableSpace, IsLetter, IsDigit, isUser, local): each returns the plain Lean function of the byte and leaves the world alone. Conditions: none. -/
import Derived.Test.YtbgikebimaijlaaProg
import Derived.Test.YtbgikebimaijlaaBase
namespace Go.Proofs.Ytbgikebimaijlaa
open Go.RowKit
def ltB (c : Int) : Bool := decide (65 ≤ c ∧ c ≤ 90 ∨ 97 ≤ c ∧ c ≤ 122)
def dgB (c : Int) : Bool := decide (48 ≤ c ∧ c ≤ 57)
def ldB (c : Int) : Bool := decide (65 ≤ c ∧ c ≤ 90 ∨ 97 ≤ c ∧ c ≤ 122 ∨ 48 ≤ c ∧ c ≤ 57)
theorem isLetterDigit_any (c : Int) (w : World) : Calls Try.prog 58 #[.int .u8 c] w fun e w' => e = .returned (.bool (ldB c)) ∧ w = w' := by
  go_enter Try.func58, Try.ntmps58
  go_wp2
  all_goals (go_ret; exact ⟨ret_bool (by rw [Bool.eq_iff_iff]; simp [ldB]; try omega), rfl⟩)
theorem isLetter_any (c : Int) (w : World) : Calls Try.prog 36 #[.int .u8 c] w fun e w' => e = .returned (.bool (ltB c)) ∧ w = w' := by
  go_enter Try.func36, Try.ntmps36
  go_wp2
  all_goals (go_ret; exact ⟨ret_bool (by rw [Bool.eq_iff_iff]; simp [ltB]; try omega), rfl⟩)
theorem isDigit_any (c : Int) (w : World) : Calls Try.prog 37 #[.int .u8 c] w fun e w' => e = .returned (.bool (dgB c)) ∧ w = w' := by
  go_enter Try.func37, Try.ntmps37
  go_wp2
  all_goals (go_ret; exact ⟨ret_bool (by rw [Bool.eq_iff_iff]; simp [dgB]; try omega), rfl⟩)
/-- The signs that may stand ahead of an at sign, beside letters and digits. -/
abbrev signs : ByteArray := ⟨#[46, 33, 35, 36, 37, 38, 39, 42, 43, 47, 61, 63, 94, 95, 96, 123, 124, 125, 126, 45]⟩
def sgL : List Int := [46, 33, 35, 36, 37, 38, 39, 42, 43, 47, 61, 63, 94, 95, 96, 123, 124, 125, 126, 45]
theorem signs_at : ∀ k, k < 20 → bt signs k ∈ sgL := by decide
theorem signs_all (c : Int) (h : ∀ j, j < 20 → bt signs j ≠ c) : c ∉ sgL := by
  intro hm
  obtain ⟨k, hk, he⟩ := List.mem_iff_getElem.1 hm
  have hs : ∀ k, k < 20 → bt signs k = sgL.getD k 0 := by decide
  have hk' : k < 20 := hk
  refine h k hk' ?_
  rw [hs k hk', List.getD_eq_getElem?_getD, List.getElem?_eq_getElem hk, ← he]
  rfl
theorem ld_of_lt {c : Int} (h : ltB c = true) : ldB c = true := by
  simp [ltB] at h; simp [ldB]; omega
theorem ld_of_dg {c : Int} (h : dgB c = true) : ldB c = true := by
  simp [dgB] at h; simp [ldB]; omega
theorem ld_not {c : Int} (h : ltB c = false) (k : dgB c = false) : ldB c = false := by
  simp [ltB] at h; simp [dgB] at k; simp [ldB]; omega
theorem local_any (c : Int) (w : World) : Calls Try.prog 40 #[.int .u8 c] w fun e w' => e = .returned (.bool (ldB c || decide (c ∈ sgL))) ∧ w = w' := by
  by_cases hl : ltB c = true
  · have hL := hide (ld_of_lt hl)
    go_enter Try.func40, Try.ntmps40
    go_wp2_with (first | (go_at_call 36; refine (isLetter_any _ _).mono ?_; rintro e w' ⟨rfl, rfl⟩) | (go_at_call 37; refine (isDigit_any _ _).mono ?_; rintro e w' ⟨rfl, rfl⟩))
    go_ret
    exact ⟨ret_bool (by simp [hL.out]), rfl⟩
  · have hl : ltB c = false := by simpa using hl
    by_cases hd : dgB c = true
    · have hL := hide (ld_of_dg hd)
      go_enter Try.func40, Try.ntmps40
      go_wp2_with (first | (go_at_call 36; refine (isLetter_any _ _).mono ?_; rintro e w' ⟨rfl, rfl⟩) | (go_at_call 37; refine (isDigit_any _ _).mono ?_; rintro e w' ⟨rfl, rfl⟩))
      go_ret
      exact ⟨ret_bool (by simp [hL.out]), rfl⟩
    · have hd : dgB c = false := by simpa using hd
      have hL := hide (ld_not hl hd)
      have hb := get_bt signs
      unfold signs at hb
      go_enter Try.func40, Try.ntmps40
      go_wp2_with (first | (go_at_call 36; refine (isLetter_any _ _).mono ?_; rintro e w' ⟨rfl, rfl⟩) | (go_at_call 37; refine (isDigit_any _ _).mono ?_; rintro e w' ⟨rfl, rfl⟩))
      go_loop [3] (fun i => ∃ k : Nat, k ≤ 20 ∧ i = .int .i64 k ∧ Hid (∀ j, j < k → bt signs j ≠ c)) (fun i => 20 - (intOf i).toNat)
      case atStart => exact ⟨0, by omega, rfl, fun j h => absurd h (by omega)⟩
      case round =>
        obtain ⟨k, hk, rfl, hn⟩ := hrel
        by_cases hlt : k < 20
        · go_wp2
          · have h : (bt signs k == c) = true := by assumption
            have e : bt signs k = c := by simpa using h
            go_ret
            exact ⟨ret_bool (by rw [← e]; simp [signs_at k hlt]), rfl⟩
          · have h : (bt signs k == c) = false := by assumption
            have hne : bt signs k ≠ c := by simpa using h
            go_round
            case rel =>
              refine ⟨k + 1, by omega, by go_num, fun j hj => ?_⟩
              by_cases e : j = k
              · subst e; exact hne
              · exact hn j (by omega)
            case measure => simp [intOf]; omega
        · obtain rfl : k = 20 := by omega
          go_wp2
          go_ret
          exact ⟨ret_bool (by have := signs_all c (fun j hj => hn j hj); simp [hL.out, this]), rfl⟩
end Go.Proofs.Ytbgikebimaijlaa
