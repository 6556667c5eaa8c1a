/- Contracts of the reference's scheme and of parseAutoLinkURI. Conditions: texts of at most 1000 bytes. -/
import Derived.Test.YtbgikebimaijlaaAuto
namespace Go.Proofs.Ytbgikebimaijlaa
open Go.RowKit
theorem sc_cases {c : Int} (h : scB c = true) : ltB c = true ∨ (ltB c = false ∧ dgB c = true) ∨ (ltB c = false ∧ dgB c = false ∧ (c == 43) = true) ∨ (ltB c = false ∧ dgB c = false ∧ (c == 43) = false ∧ (c == 46) = true) ∨ (ltB c = false ∧ dgB c = false ∧ (c == 43) = false ∧ (c == 46) = false ∧ (c == 45) = true) := by
  by_cases h1 : ltB c = true
  · exact .inl h1
  have h1 : ltB c = false := by simpa using h1
  by_cases h2 : dgB c = true
  · exact .inr (.inl ⟨h1, h2⟩)
  have h2 : dgB c = false := by simpa using h2
  have h0 := ld_not h1 h2
  by_cases h3 : c = 43
  · exact .inr (.inr (.inl ⟨h1, h2, by simp [h3]⟩))
  by_cases h4 : c = 46
  · exact .inr (.inr (.inr (.inl ⟨h1, h2, by simp [h3], by simp [h4]⟩)))
  · exact .inr (.inr (.inr (.inr ⟨h1, h2, by simp [h3], by simp [h4], by simpa [scB, h0, h3, h4] using h⟩)))
theorem sc_no {c : Int} (h : scB c = false) : ltB c = false ∧ dgB c = false ∧ (c == 43) = false ∧ (c == 46) = false ∧ (c == 45) = false := by
  unfold scB at h
  rw [Bool.or_eq_false_iff, Bool.or_eq_false_iff, Bool.or_eq_false_iff] at h
  have : ltB c = false ∧ dgB c = false := by have h := h.1; simp [ldB] at h; simp [ltB, dgB]; omega
  exact ⟨this.1, this.2, by simpa using h.2.1, by simpa using h.2.2.1, by simpa using h.2.2.2⟩
/-- A text begins with a scheme and a colon. -/
def schB (t : ByteArray) : Bool := decide (0 < t.size) && (ltB (bt t 0) && (decide (2 ≤ scan scB t 0) && (decide (scan scB t 0 ≤ 32) && (decide (scan scB t 0 < t.size) && decide (bt t (scan scB t 0) = 58)))))
set_option maxHeartbeats 4000000 in
theorem scheme_any (t : ByteArray) (w : World) (hs : t.size ≤ 1000) : Calls Try.prog 30 #[.string t] w fun e w' => e = .returned (.bool (schB t)) ∧ w = w' := by
  have hb := get_bt t
  by_cases h0 : 0 < t.size ∧ ltB (bt t 0) = true
  case neg =>
    have hN : Hid (schB t = false) := by
      unfold Hid schB
      by_cases a : 0 < t.size
      · have : ltB (bt t 0) = false := by
          have : ¬ ltB (bt t 0) = true := fun x => h0 ⟨a, x⟩
          simpa using this
        simp [this]
      · simp [a]
    go_enter Try.func30, Try.ntmps30
    go_wp2
    go_loop [3] (fun i' => i' = .int .i64 0) (fun _ => 1)
    case atStart => rfl
    case round =>
      subst hrel
      by_cases a : 0 < t.size
      · have k1 : ltB (bt t 0) = false := by
          have : ¬ ltB (bt t 0) = true := fun x => h0 ⟨a, x⟩
          simpa using this
        have aI : (0 : Int) < (t.size : Int) := by omega
        clear h0
        go_wp2_with (first | (go_at_call 36; refine (isLetter_any _ _).mono ?_; rw [k1]; rintro e w' ⟨rfl, rfl⟩))
        go_ret
        exact ⟨ret_bool (by rw [hN.out]), rfl⟩
      · have aI : ¬ (0 : Int) < (t.size : Int) := by omega
        clear h0
        go_wp2
        go_ret
        exact ⟨ret_bool (by rw [hN.out]), rfl⟩
  obtain ⟨h1, h2⟩ := h0
  have hY : Hid (schB t = (decide (2 ≤ scan scB t 0) && (decide (scan scB t 0 ≤ 32) && (decide (scan scB t 0 < t.size) && decide (bt t (scan scB t 0) = 58))))) := by
    unfold Hid schB; simp [h1, h2]
  go_enter Try.func30, Try.ntmps30
  go_wp2
  go_loop [3] (fun i' => ∃ k : Nat, k ≤ t.size ∧ i' = .int .i64 k ∧ Hid (∀ j, j < k → scB (bt t j) = true)) (fun i => t.size - (intOf i).toNat)
  case atStart => exact ⟨0, by omega, rfl, fun j h => absurd h (by omega)⟩
  case round =>
    obtain ⟨k, hk, rfl, hn⟩ := hrel
    by_cases hlt : k < t.size
    · have hltI : (k : Int) < (t.size : Int) := by omega
      by_cases hA : scB (bt t k) = true
      · have hE : Hid (∀ j, j < k + 1 → scB (bt t j) = true) := by
          intro j b
          by_cases e : j = k
          · subst e; exact hA
          · exact hn j (by omega)
        by_cases hz : k = 0
        · subst hz
          go_wp2_with (first | (go_at_call 36; refine (isLetter_any _ _).mono ?_; rw [show ltB (bt t 0) = true from h2]; rintro e w' ⟨rfl, rfl⟩))
          go_round
          case rel => exact ⟨1, by omega, by go_num, hE⟩
          case measure => simp [intOf]; omega
        have hzI : (0 : Int) < (k : Int) := by omega
        have hcs := sc_cases hA
        clear hA
        rcases hcs with k1 | ⟨k1, k2⟩ | ⟨k1, k2, k3⟩ | ⟨k1, k2, k3, k4⟩ | ⟨k1, k2, k3, k4, k5⟩
        all_goals
          go_wp2_with (first | (go_at_call 36; refine (isLetter_any _ _).mono ?_; rw [k1]; rintro e w' ⟨rfl, rfl⟩) | (go_at_call 37; refine (isDigit_any _ _).mono ?_; rw [k2]; rintro e w' ⟨rfl, rfl⟩))
          go_round
          case rel => exact ⟨k + 1, by omega, by go_num, hE⟩
          case measure => simp [intOf]; omega
      · have hA : scB (bt t k) = false := by simpa using hA
        have hR := hide (scan_eq (Nat.zero_le k) hk (fun j _ b => hn j b) (.inr hA))
        obtain ⟨k1, k2, k3, k4, k5⟩ := sc_no hA
        clear hA
        have hz : k ≠ 0 := fun e => by subst e; rw [h2] at k1; cases k1
        have hzI : (0 : Int) < (k : Int) := by omega
        by_cases c1 : 2 ≤ k
        case neg =>
          have c1I : ¬ (2 : Int) ≤ (k : Int) := by omega
          go_wp2_with (first | (go_at_call 36; refine (isLetter_any _ _).mono ?_; rw [k1]; rintro e w' ⟨rfl, rfl⟩) | (go_at_call 37; refine (isDigit_any _ _).mono ?_; rw [k2]; rintro e w' ⟨rfl, rfl⟩))
          go_ret
          exact ⟨ret_bool (by rw [hY.out, hR.out]; simp [c1]), rfl⟩
        have c1I : (2 : Int) ≤ (k : Int) := by omega
        by_cases c2 : k ≤ 32
        case neg =>
          have c2I : ¬ (k : Int) ≤ 32 := by omega
          go_wp2_with (first | (go_at_call 36; refine (isLetter_any _ _).mono ?_; rw [k1]; rintro e w' ⟨rfl, rfl⟩) | (go_at_call 37; refine (isDigit_any _ _).mono ?_; rw [k2]; rintro e w' ⟨rfl, rfl⟩))
          go_ret
          exact ⟨ret_bool (by rw [hY.out, hR.out]; simp [c2]), rfl⟩
        have c2I : (k : Int) ≤ 32 := by omega
        go_wp2_with (first | (go_at_call 36; refine (isLetter_any _ _).mono ?_; rw [k1]; rintro e w' ⟨rfl, rfl⟩) | (go_at_call 37; refine (isDigit_any _ _).mono ?_; rw [k2]; rintro e w' ⟨rfl, rfl⟩))
        all_goals
          go_ret
          exact ⟨ret_bool (by rw [hY.out, hR.out, Bool.eq_iff_iff]; simp [c1, c2, hlt]), rfl⟩
    · obtain rfl : k = t.size := by omega
      have hR := hide (scan_eq (Nat.zero_le t.size) hk (fun j _ b => hn j b) (.inl rfl))
      have hnI : ¬ (t.size : Int) < (t.size : Int) := by omega
      go_wp2
      all_goals
        go_ret
        exact ⟨ret_bool (by rw [hY.out, hR.out]; simp), rfl⟩
end Go.Proofs.Ytbgikebimaijlaa
