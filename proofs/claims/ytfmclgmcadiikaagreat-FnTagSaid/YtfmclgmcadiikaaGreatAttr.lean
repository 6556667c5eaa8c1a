/- The plain model of attributes, and the contracts of the functions that read one. Conditions: texts of line feeds and printable bytes (where the two sides' classes of bytes differ beyond), of at most 1000 bytes. -/
import Derived.Test.YtfmclgmcadiikaaGreatProg
import Derived.Test.YtfmclgmcadiikaaGreatBase
import Derived.Test.YtfmclgmcadiikaaGreatChars
import Derived.Test.YtfmclgmcadiikaaGreatTexts
import Derived.Test.YtfmclgmcadiikaaGreatSkip
import Derived.Test.YtfmclgmcadiikaaGreatMark
import Derived.Lib.IndexLaws
namespace Go.Proofs.YtfmclgmcadiikaaGreat
open Go.RowKit
theorem scanF_at {p q : Int → Bool} (s : ByteArray) (h : ∀ k, k < s.size → p (bt s k) = q (bt s k)) : ∀ n i, scanF p s n i = scanF q s n i
  | 0, i => rfl
  | n + 1, i => by
    unfold scanF
    by_cases hi : i < s.size
    · rw [h i hi, scanF_at s h n (i + 1)]
    · rw [if_neg (fun x => hi x.1), if_neg (fun x => hi x.1)]
theorem scan_at {p q : Int → Bool} (s : ByteArray) (h : ∀ k, k < s.size → p (bt s k) = q (bt s k)) (i : Nat) : scan p s i = scan q s i := scanF_at s h _ i
theorem scan_step {p : Int → Bool} {s : ByteArray} {i : Nat} (hi : i < s.size) (h : p (bt s i) = true) : scan p s i = scan p s (i + 1) := by
  obtain ⟨h1, h2, h3, h4⟩ := scan_is p s (i := i + 1) (by omega)
  exact scan_eq (by omega) h2 (fun k a b => by
    by_cases e : k = i
    · subst e; exact h
    · exact h3 k (by omega) b) h4
theorem scan_stop {p : Int → Bool} {s : ByteArray} {i : Nat} (hi : i ≤ s.size) (h : i = s.size ∨ p (bt s i) = false) : scan p s i = i :=
  scan_eq (Nat.le_refl _) hi (fun k a b => absurd a (by omega)) h
def LinedT (s : ByteArray) : Prop := ∀ k, k < s.size → bt s k = 10 ∨ (32 ≤ bt s k ∧ bt s k ≤ 126)
/-- A space, a tab, a line feed or a carriage return. -/
def bkB (c : Int) : Bool := decide (c = 32 ∨ c = 9 ∨ c = 10 ∨ c = 13)
theorem bk_bl {s : ByteArray} (h : LinedT s) (i : Nat) : scan bkB s i = scan blB s i := scan_at s (fun k hk => by
  rcases h k hk with h1 | h1
  · rw [h1]; rfl
  · rw [Bool.eq_iff_iff]; simp [bkB, blB]; omega) i
def nsB (c : Int) : Bool := ltB c || (decide (c = 95) || decide (c = 58))
def nmB (c : Int) : Bool := ldB c || (decide (c = 95) || (decide (c = 46) || (decide (c = 58) || decide (c = 45))))
theorem ns_nm {c : Int} (h : nsB c = true) : nmB c = true := by
  unfold nsB at h; unfold nmB
  rw [Bool.or_eq_true] at h
  rcases h with h | h
  · rw [ld_of_lt h]; rfl
  · rw [Bool.or_eq_true] at h
    rcases h with h | h <;> (have := of_decide_eq_true h; subst this; decide)
/-- The end of an attribute's name. -/
def anE (s : ByteArray) (i : Nat) : Option Nat := if i < s.size ∧ nsB (bt s i) = true then some (scan nmB s i) else none
def qtB (c : Int) : Bool := decide (c = 34 ∨ c = 39)
def neB (q c : Int) : Bool := !decide (c = q)
def uvB (c : Int) : Bool := !decide (c = 32 ∨ c = 9 ∨ c = 10 ∨ c = 34 ∨ c = 39 ∨ c = 61 ∨ c = 60 ∨ c = 62 ∨ c = 96)
/-- The end of an attribute's value. -/
def avE (s : ByteArray) (i : Nat) : Option Nat :=
  if i < s.size then
    (if qtB (bt s i) = true then (if scan (neB (bt s i)) s (i + 1) < s.size then some (scan (neB (bt s i)) s (i + 1) + 1) else none)
    else (if i < scan uvB s i then some (scan uvB s i) else none))
  else none
theorem isBlank_any (c : Int) (w : World) : Calls Tryz.prog 33 #[.int .u8 c] w fun e w' => e = .returned (.bool (bkB c)) ∧ w = w' := by
  go_enter Tryz.func33, Tryz.ntmps33
  go_wp2
  all_goals (go_ret; exact ⟨ret_bool (by rw [Bool.eq_iff_iff]; simp [bkB]; try omega), rfl⟩)
theorem isLetterM_any (c : Int) (w : World) : Calls Tryz.prog 41 #[.int .u8 c] w fun e w' => e = .returned (.bool (ltB c)) ∧ w = w' := by
  go_enter Tryz.func41, Tryz.ntmps41
  go_wp2
  all_goals (go_ret; exact ⟨ret_bool (by rw [Bool.eq_iff_iff]; simp [ltB]; try omega), rfl⟩)
theorem isLDH_any (c : Int) (w : World) : Calls Tryz.prog 42 #[.int .u8 c] w fun e w' => e = .returned (.bool (ldB c || decide (c = 45))) ∧ w = w' := by
  by_cases hl : ldB c = true
  · go_enter Tryz.func42, Tryz.ntmps42
    go_wp2_with (go_at_call 47; refine (isLetterDigit_any _ _).mono ?_; rintro e w' ⟨rfl, rfl⟩)
    go_ret
    exact ⟨ret_bool (by simp [hl]), rfl⟩
  · have hl : ldB c = false := by simpa using hl
    go_enter Tryz.func42, Tryz.ntmps42
    go_wp2_with (go_at_call 47; refine (isLetterDigit_any _ _).mono ?_; rintro e w' ⟨rfl, rfl⟩)
    go_ret
    exact ⟨ret_bool (by rw [Bool.eq_iff_iff]; simp [hl]), rfl⟩
end Go.Proofs.YtfmclgmcadiikaaGreat
