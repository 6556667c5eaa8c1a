/- Contracts of the functions that read an autolink: isScheme, isURL, parseAutoLinkURI; the reference's IsControl, hostLabel, IsAddress (what it answers is left open), scheme. Conditions: texts of at most 1000 bytes. -/
import Derived.Test.YtbgikebimaijlaaAttr
namespace Go.Proofs.Ytbgikebimaijlaa
open Go.RowKit
def scB (c : Int) : Bool := ldB c || (decide (c = 43) || (decide (c = 46) || decide (c = 45)))
def urB (c : Int) : Bool := decide (32 < c ∧ c ≠ 60 ∧ c ≠ 62)
theorem isScheme_any (c : Int) (w : World) : Calls Try.prog 50 #[.int .u8 c] w fun e w' => e = .returned (.bool (scB c)) ∧ w = w' := by
  by_cases hl : ldB c = true
  · go_enter Try.func50, Try.ntmps50
    go_wp2_with (go_at_call 58; refine (isLetterDigit_any _ _).mono ?_; rintro e w' ⟨rfl, rfl⟩)
    go_ret
    exact ⟨ret_bool (by simp [scB, hl]), rfl⟩
  · have hl : ldB c = false := by simpa using hl
    go_enter Try.func50, Try.ntmps50
    go_wp2_with (go_at_call 58; refine (isLetterDigit_any _ _).mono ?_; rintro e w' ⟨rfl, rfl⟩)
    all_goals
      go_ret
      exact ⟨ret_bool (by rw [Bool.eq_iff_iff]; simp [scB, hl]; try omega), rfl⟩
theorem isURL_any (c : Int) (w : World) : Calls Try.prog 51 #[.int .u8 c] w fun e w' => e = .returned (.bool (urB c)) ∧ w = w' := by
  go_enter Try.func51, Try.ntmps51
  go_wp2
  all_goals (go_ret; exact ⟨ret_bool (by rw [Bool.eq_iff_iff]; simp [urB]; try omega), rfl⟩)
theorem isControl_any (c : Int) (w : World) : Calls Try.prog 29 #[.int .u8 c] w fun e w' => e = .returned (.bool (decide (c < 32 ∨ c = 127))) ∧ w = w' := by
  go_enter Try.func29, Try.ntmps29
  go_wp2
  all_goals (go_ret; exact ⟨ret_bool (by first | rfl | (rw [Bool.eq_iff_iff]; simp; try omega)), rfl⟩)
def hlB (c : Int) : Bool := ltB c || (dgB c || decide (c = 45))
theorem hl_cases {c : Int} (h : hlB c = true) : ltB c = true ∨ (ltB c = false ∧ dgB c = true) ∨ (ltB c = false ∧ dgB c = false ∧ (c == 45) = true) := by
  by_cases h1 : ltB c = true
  · exact .inl h1
  have h1 : ltB c = false := by simpa using h1
  by_cases h2 : dgB c = true
  · exact .inr (.inl ⟨h1, h2⟩)
  have h2 : dgB c = false := by simpa using h2
  exact .inr (.inr ⟨h1, h2, by simpa [hlB, h1, h2] using h⟩)
theorem hl_no {c : Int} (h : hlB c = false) : ltB c = false ∧ dgB c = false ∧ (c == 45) = false := by
  unfold hlB at h
  rw [Bool.or_eq_false_iff, Bool.or_eq_false_iff] at h
  exact ⟨h.1, h.2.1, by simpa using h.2.2⟩
set_option maxHeartbeats 1000000 in
theorem hostLabel_any (s : ByteArray) (i : Nat) (w : World) (hs : s.size ≤ 1000) (hi : i ≤ s.size) : Calls Try.prog 41 #[.string s, .int .i64 i] w fun e w' => (∃ z : Int, e = .returned (.int .i64 z) ∧ (z < 0 ∨ z = (s.size : Int) ∨ ∃ n : Nat, z = n ∧ i < n ∧ n < s.size ∧ (n : Int) < (s.size : Int) ∧ ((n : Int) == (s.size : Int)) = false)) ∧ w = w' := by
  have hb := get_bt s
  go_enter Try.func41, Try.ntmps41
  go_wp2
  go_loop [5] (fun i' => ∃ k : Nat, i ≤ k ∧ k ≤ s.size ∧ i' = .int .i64 k) (fun i => s.size - (intOf i).toNat)
  case atStart => exact ⟨i, by omega, by omega, rfl⟩
  case round =>
    obtain ⟨k, hik, hk, rfl⟩ := hrel
    have fin : ∀ (P : Prop), P → P := fun _ h => h
    by_cases hlt : k < s.size
    · by_cases hA : hlB (bt s k) = true
      · have hcs := hl_cases hA
        clear hA
        rcases hcs with k1 | ⟨k1, k2⟩ | ⟨k1, k2, k3⟩
        all_goals
          go_wp2_with (first | (go_at_call 36; refine (isLetter_any _ _).mono ?_; rintro e w' ⟨rfl, rfl⟩) | (go_at_call 37; refine (isDigit_any _ _).mono ?_; rintro e w' ⟨rfl, rfl⟩))
          go_round
          case rel => exact ⟨k + 1, by omega, by omega, by go_num⟩
          case measure => simp [intOf]; omega
      · have hA : hlB (bt s k) = false := by simpa using hA
        obtain ⟨k1, k2, k3⟩ := hl_no hA
        clear hA
        by_cases hz : i = k
        · subst hz
          have cz : ((i : Int) == (i : Int)) = true := by simp
          go_wp2_with (first | (go_at_call 36; refine (isLetter_any _ _).mono ?_; rintro e w' ⟨rfl, rfl⟩) | (go_at_call 37; refine (isDigit_any _ _).mono ?_; rintro e w' ⟨rfl, rfl⟩))
          go_ret
          exact ⟨⟨_, rfl, .inl (by decide)⟩, rfl⟩
        · have cz : ((k : Int) == (i : Int)) = false := by simp; omega
          have f1 : (i : Int) < (s.size : Int) := by omega
          have f2 : (0 : Int) ≤ (k : Int) - 1 := by omega
          have f3 : (k : Int) - 1 < (s.size : Int) := by omega
          have f4 : i < s.size := by omega
          go_wp2_with (first | (go_at_call 36; refine (isLetter_any _ _).mono ?_; rintro e w' ⟨rfl, rfl⟩) | (go_at_call 37; refine (isDigit_any _ _).mono ?_; rintro e w' ⟨rfl, rfl⟩))
          all_goals
            go_ret
            first | exact ⟨⟨_, rfl, .inl (by decide)⟩, rfl⟩ | exact ⟨⟨_, rfl, .inr (.inr ⟨k, rfl, by omega, hlt, by omega, by rw [beq_eq_false_iff_ne]; omega⟩)⟩, rfl⟩
    · obtain rfl : k = s.size := by omega
      by_cases hz : i = s.size
      · have cz : ((s.size : Int) == (i : Int)) = true := by simp; omega
        go_wp2
        go_ret
        exact ⟨⟨_, rfl, .inl (by decide)⟩, rfl⟩
      · have cz : ((s.size : Int) == (i : Int)) = false := by simp; omega
        have f1 : (i : Int) < (s.size : Int) := by omega
        have f2 : (0 : Int) ≤ (s.size : Int) - 1 := by omega
        have f3 : (s.size : Int) - 1 < (s.size : Int) := by omega
        have f4 : i < s.size := by omega
        go_wp2
        all_goals
          go_ret
          first | exact ⟨⟨_, rfl, .inl (by decide)⟩, rfl⟩ | exact ⟨⟨_, rfl, .inr (.inl rfl)⟩, rfl⟩
set_option maxHeartbeats 1000000 in
theorem isAddress_any (s : ByteArray) (w : World) (hs : s.size ≤ 1000) : Calls Try.prog 31 #[.string s] w fun e w' => (∃ b : Bool, e = .returned (.bool b)) ∧ w = w' := by
  have hb := get_bt s
  go_enter Try.func31, Try.ntmps31
  go_wp2
  go_loop [3] (fun i' => ∃ k : Nat, k ≤ s.size ∧ i' = .int .i64 k) (fun i => s.size - (intOf i).toNat)
  case atStart => exact ⟨0, by omega, rfl⟩
  case round =>
    obtain ⟨k, hk, rfl⟩ := hrel
    by_cases hlt : k < s.size
    · cases hl : (ldB (bt s k) || decide (bt s k ∈ sgL)) with
      | true =>
        go_wp2_with (go_at_call 40; refine (local_any _ _).mono ?_; rw [hl]; rintro e w' ⟨rfl, rfl⟩)
        go_round
        case rel => exact ⟨k + 1, by omega, by go_num⟩
        case measure => simp [intOf]; omega
      | false =>
        by_cases hz : k = 0
        · subst hz
          go_wp2_with (go_at_call 40; refine (local_any _ _).mono ?_; rw [hl]; rintro e w' ⟨rfl, rfl⟩)
          go_ret
          exact ⟨⟨_, rfl⟩, rfl⟩
        have cz : ((k : Int) == 0) = false := by simp; omega
        have cs : ((k : Int) == (s.size : Int)) = false := by simp; omega
        by_cases hq : bt s k = 64
        case neg =>
          have cq : (bt s k == 64) = false := by simpa using hq
          clear hq
          go_wp2_with (go_at_call 40; refine (local_any _ _).mono ?_; rw [hl]; rintro e w' ⟨rfl, rfl⟩)
          go_ret
          exact ⟨⟨_, rfl⟩, rfl⟩
        have cq : (bt s k == 64) = true := by simp [hq]
        have cq' : (bt s k != 64) = false := by simp [hq]
        clear hq
        go_wp2_with (go_at_call 40; refine (local_any _ _).mono ?_; rw [hl]; rintro e w' ⟨rfl, rfl⟩)
        go_loopw [3] (fun i' wr => w = wr ∧ ∃ k : Nat, k < s.size ∧ i' = .int .i64 k) (fun i _ => s.size - (intOf i).toNat)
        case atStart => exact ⟨rfl, k, hlt, rfl⟩
        case round =>
          obtain ⟨hww, j, hj, rfl⟩ := hrel
          subst hww
          have HL : ∀ wx : World, Calls Try.prog 41 #[.string s, .int .i64 ((j : Int) + 1)] wx fun e w' => (∃ z : Int, e = .returned (.int .i64 z) ∧ (z < 0 ∨ z = (s.size : Int) ∨ ∃ n : Nat, z = n ∧ j + 1 < n ∧ n < s.size ∧ (n : Int) < (s.size : Int) ∧ ((n : Int) == (s.size : Int)) = false)) ∧ wx = w' := fun wx => by
            have := hostLabel_any s (j + 1) wx hs (by omega)
            simpa using this
          have HH := hide HL
          have css : ((s.size : Int) == (s.size : Int)) = true := by simp
          clear HL
          go_wp2_with (go_at_call 41; refine (HH.out _).mono ?_; rintro e w' ⟨⟨z, rfl, hz | rfl | ⟨n, rfl, hn1, hx, hxI, cx⟩⟩, rfl⟩)
          all_goals first
            | (go_ret; first | exact ⟨⟨_, rfl⟩, rfl⟩ | exact ⟨.inl rfl, rfl⟩ | exact ⟨.inr rfl, rfl⟩)
            | (go_roundw
               case rel => exact ⟨by trivial, n, hx, rfl⟩
               case measure => simp [intOf]; omega)
    · obtain rfl : k = s.size := by omega
      have cs : ((s.size : Int) == (s.size : Int)) = true := by simp
      by_cases hz : s.size = 0
      · have cz : ((s.size : Int) == 0) = true := by rw [hz]; rfl
        go_wp2
        go_ret
        first | exact ⟨⟨_, rfl⟩, rfl⟩ | exact ⟨.inl rfl, rfl⟩ | exact ⟨.inr rfl, rfl⟩
      · have cz : ((s.size : Int) == 0) = false := by rw [beq_eq_false_iff_ne]; omega
        go_wp2
        go_ret
        first | exact ⟨⟨_, rfl⟩, rfl⟩ | exact ⟨.inl rfl, rfl⟩ | exact ⟨.inr rfl, rfl⟩
end Go.Proofs.Ytbgikebimaijlaa
