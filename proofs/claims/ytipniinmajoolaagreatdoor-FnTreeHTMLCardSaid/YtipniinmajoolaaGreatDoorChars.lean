/- Contracts of the functions on single bytes (isLetterDigit, isLDH, isTableSpace, IsLetter, IsDigit, isUser, local): each returns the plain Lean function of the byte and leaves the world alone. Conditions: none. -/
import Derived.Test.YtipniinmajoolaaGreatDoorProg
import Derived.Test.YtipniinmajoolaaGreatDoorBase
namespace Go.Proofs.YtipniinmajoolaaGreatDoor
open Go.RowKit
def ltB (c : Int) : Bool := decide (65 ≤ c ∧ c ≤ 90 ∨ 97 ≤ c ∧ c ≤ 122)
def dgB (c : Int) : Bool := decide (48 ≤ c ∧ c ≤ 57)
def ldB (c : Int) : Bool := decide (65 ≤ c ∧ c ≤ 90 ∨ 97 ≤ c ∧ c ≤ 122 ∨ 48 ≤ c ∧ c ≤ 57)
theorem isLetter_any (c : Int) (w : World) : Calls Tryz.prog 65 #[.int .u8 c] w fun e w' => e = .returned (.bool (ltB c)) ∧ w = w' := by
  go_enter Tryz.func65, Tryz.ntmps65
  go_wp2
  all_goals (go_ret; exact ⟨ret_bool (by rw [Bool.eq_iff_iff]; simp [ltB]; try omega), rfl⟩)
theorem isDigit_any (c : Int) (w : World) : Calls Tryz.prog 66 #[.int .u8 c] w fun e w' => e = .returned (.bool (dgB c)) ∧ w = w' := by
  go_enter Tryz.func66, Tryz.ntmps66
  go_wp2
  all_goals (go_ret; exact ⟨ret_bool (by rw [Bool.eq_iff_iff]; simp [dgB]; try omega), rfl⟩)
/-- The signs that may stand ahead of an at sign, beside letters and digits. -/
abbrev signs : ByteArray := ⟨#[46, 33, 35, 36, 37, 38, 39, 42, 43, 47, 61, 63, 94, 95, 96, 123, 124, 125, 126, 45]⟩
def sgL : List Int := [46, 33, 35, 36, 37, 38, 39, 42, 43, 47, 61, 63, 94, 95, 96, 123, 124, 125, 126, 45]
theorem signs_at : ∀ k, k < 20 → bt signs k ∈ sgL := by decide
theorem signs_all (c : Int) (h : ∀ j, j < 20 → bt signs j ≠ c) : c ∉ sgL := by
  intro hm
  obtain ⟨k, hk, he⟩ := List.mem_iff_getElem.1 hm
  have hs : ∀ k, k < 20 → bt signs k = sgL.getD k 0 := by decide
  have hk' : k < 20 := hk
  refine h k hk' ?_
  rw [hs k hk', List.getD_eq_getElem?_getD, List.getElem?_eq_getElem hk, ← he]
  rfl
theorem ld_of_lt {c : Int} (h : ltB c = true) : ldB c = true := by
  simp [ltB] at h; simp [ldB]; omega
theorem ld_of_dg {c : Int} (h : dgB c = true) : ldB c = true := by
  simp [dgB] at h; simp [ldB]; omega
theorem ld_not {c : Int} (h : ltB c = false) (k : dgB c = false) : ldB c = false := by
  simp [ltB] at h; simp [dgB] at k; simp [ldB]; omega
end Go.Proofs.YtipniinmajoolaaGreatDoor
