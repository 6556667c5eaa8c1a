/- Contracts of the reference's attrName and attrValue, and of parseAttrName, parseAttrValue, parseAttrValueSpec and parseAttr. Conditions: texts of line feeds and printable bytes, of at most 1000 bytes. -/
import Derived.Test.YtfmclgmcadiikaaGreatAttr
namespace Go.Proofs.YtfmclgmcadiikaaGreat
open Go.RowKit
theorem ns_cases {c : Int} (h : nsB c = true) : ltB c = true ∨ (ltB c = false ∧ (c == 95) = true) ∨ (ltB c = false ∧ (c == 95) = false ∧ (c == 58) = true) := by
  by_cases h1 : ltB c = true
  · exact .inl h1
  · have h1 : ltB c = false := by simpa using h1
    by_cases h2 : c = 95
    · exact .inr (.inl ⟨h1, by simp [h2]⟩)
    · exact .inr (.inr ⟨h1, by simp [h2], by simpa [nsB, h1, h2] using h⟩)
theorem ns_nocases {c : Int} (h : nsB c = false) : ltB c = false ∧ (c == 95) = false ∧ (c == 58) = false := by
  unfold nsB at h
  rw [Bool.or_eq_false_iff, Bool.or_eq_false_iff] at h
  exact ⟨h.1, by simpa using h.2.1, by simpa using h.2.2⟩
/-- A byte of a name, as the reference asks for it. -/
theorem nm_cases {c : Int} (h : nmB c = true) : ltB c = true ∨ (ltB c = false ∧ dgB c = true) ∨ (ltB c = false ∧ dgB c = false ∧ (c == 95) = true) ∨ (ltB c = false ∧ dgB c = false ∧ (c == 95) = false ∧ (c == 46) = true) ∨ (ltB c = false ∧ dgB c = false ∧ (c == 95) = false ∧ (c == 46) = false ∧ (c == 58) = true) ∨ (ltB c = false ∧ dgB c = false ∧ (c == 95) = false ∧ (c == 46) = false ∧ (c == 58) = false ∧ (c == 45) = true) := by
  by_cases h1 : ltB c = true
  · exact .inl h1
  have h1 : ltB c = false := by simpa using h1
  by_cases h2 : dgB c = true
  · exact .inr (.inl ⟨h1, h2⟩)
  have h2 : dgB c = false := by simpa using h2
  have h0 := ld_not h1 h2
  unfold nmB at h
  rw [h0] at h
  by_cases h3 : c = 95
  · exact .inr (.inr (.inl ⟨h1, h2, by simp [h3]⟩))
  by_cases h4 : c = 46
  · exact .inr (.inr (.inr (.inl ⟨h1, h2, by simp [h3], by simp [h4]⟩)))
  by_cases h5 : c = 58
  · exact .inr (.inr (.inr (.inr (.inl ⟨h1, h2, by simp [h3], by simp [h4], by simp [h5]⟩))))
  · exact .inr (.inr (.inr (.inr (.inr ⟨h1, h2, by simp [h3], by simp [h4], by simp [h5], by simpa [h3, h4, h5] using h⟩))))
theorem ld_yes {c : Int} (h : ldB c = true) : ltB c = true ∨ dgB c = true := by
  simp [ldB] at h; simp [ltB, dgB]; omega
theorem ld_no {c : Int} (h : ldB c = false) : ltB c = false ∧ dgB c = false := by
  simp [ldB] at h; simp [ltB, dgB]; omega
theorem nm_nocases {c : Int} (h : nmB c = false) : ltB c = false ∧ dgB c = false ∧ (c == 95) = false ∧ (c == 46) = false ∧ (c == 58) = false ∧ (c == 45) = false ∧ (ldB c || decide (c = 45)) = false := by
  unfold nmB at h
  rw [Bool.or_eq_false_iff, Bool.or_eq_false_iff, Bool.or_eq_false_iff, Bool.or_eq_false_iff] at h
  obtain ⟨h1, h2, h3, h4, h5⟩ := h
  have := ld_no h1
  exact ⟨this.1, this.2, by simpa using h2, by simpa using h3, by simpa using h4, by simpa using h5, by rw [h1, h5]; rfl⟩
/-- A byte of a name, as parseAttrName asks for it. -/
theorem nm_cases2 {c : Int} (h : nmB c = true) : (ldB c || decide (c = 45)) = true ∨ ((ldB c || decide (c = 45)) = false ∧ (c == 95) = true) ∨ ((ldB c || decide (c = 45)) = false ∧ (c == 95) = false ∧ (c == 46) = true) ∨ ((ldB c || decide (c = 45)) = false ∧ (c == 95) = false ∧ (c == 46) = false ∧ (c == 58) = true) := by
  by_cases h0 : (ldB c || decide (c = 45)) = true
  · exact .inl h0
  have h0 : (ldB c || decide (c = 45)) = false := by simpa using h0
  have g := h0
  rw [Bool.or_eq_false_iff] at g
  unfold nmB at h
  rw [g.1, g.2] at h
  by_cases h3 : c = 95
  · exact .inr (.inl ⟨h0, by simp [h3]⟩)
  by_cases h4 : c = 46
  · exact .inr (.inr (.inl ⟨h0, by simp [h3], by simp [h4]⟩))
  · exact .inr (.inr (.inr ⟨h0, by simp [h3], by simp [h4], by simpa [h3, h4] using h⟩))
set_option maxHeartbeats 1000000 in
theorem attrName_any (s : ByteArray) (i : Nat) (w : World) (hs : s.size ≤ 1000) (hi : i ≤ s.size) : Calls Tryz.prog 21 #[.string s, .int .i64 i] w fun e w' => e = .returned (.int .i64 (idxI (anE s i))) ∧ w = w' := by
  have hb := get_bt s
  by_cases h1 : i < s.size
  case neg =>
    have hN : Hid (anE s i = none) := by unfold Hid anE; rw [if_neg (fun x => h1 x.1)]
    have h1I : (s.size : Int) ≤ (i : Int) := by omega
    clear h1
    go_enter Tryz.func21, Tryz.ntmps21
    go_wp2
    go_ret
    exact ⟨ret_int (by rw [hN.out]; rfl), rfl⟩
  have h1I : ¬ ((s.size : Int) ≤ (i : Int)) := by omega
  by_cases h2 : nsB (bt s i) = true
  case neg =>
    have hN : Hid (anE s i = none) := by unfold Hid anE; rw [if_neg (fun x => h2 x.2)]
    have h2 : nsB (bt s i) = false := by simpa using h2
    obtain ⟨g1, g2, g3⟩ := ns_nocases h2
    have g2' : (bt s i != 95) = true := by simpa using g2
    have g3' : (bt s i != 58) = true := by simpa using g3
    clear h2
    go_enter Tryz.func21, Tryz.ntmps21
    go_wp2_with (go_at_call 15; refine (isLetter_any _ _).mono ?_; rintro e w' ⟨rfl, rfl⟩)
    go_ret
    exact ⟨ret_int (by rw [hN.out]; rfl), rfl⟩
  have hY : Hid (anE s i = some (scan nmB s i)) := by unfold Hid anE; rw [if_pos ⟨h1, h2⟩]
  have hc := ns_cases h2
  clear h2
  rcases hc with g1 | ⟨g1, g2⟩ | ⟨g1, g2, g3⟩
  all_goals
    try have g2'' : (bt s i != 95) = !(bt s i == 95) := rfl
    try rw [g2] at g2''
    try have g3'' : (bt s i != 58) = !(bt s i == 58) := rfl
    try rw [g3] at g3''
    go_enter Tryz.func21, Tryz.ntmps21
    go_wp2_with (go_at_call 15; refine (isLetter_any _ _).mono ?_; rintro e w' ⟨rfl, rfl⟩)
    go_loop [1] (fun i' => ∃ k : Nat, i ≤ k ∧ k ≤ s.size ∧ i' = .int .i64 k ∧ Hid (∀ j, i ≤ j → j < k → nmB (bt s j) = true)) (fun i => s.size - (intOf i).toNat)
    case atStart => exact ⟨i, by omega, by omega, rfl, fun j h h' => absurd h (by omega)⟩
    case round =>
      obtain ⟨k, hik, hk, rfl, hn⟩ := hrel
      by_cases hlt : k < s.size
      · by_cases hA : nmB (bt s k) = true
        · have hE : Hid (∀ j, i ≤ j → j < k + 1 → nmB (bt s j) = true) := by
            intro j a b
            by_cases e : j = k
            · subst e; exact hA
            · exact hn j a (by omega)
          have hcs := nm_cases hA
          clear hA
          rcases hcs with k1 | ⟨k1, k2⟩ | ⟨k1, k2, k3⟩ | ⟨k1, k2, k3, k4⟩ | ⟨k1, k2, k3, k4, k5⟩ | ⟨k1, k2, k3, k4, k5, k6⟩
          all_goals
            go_wp2_with (first | (go_at_call 15; refine (isLetter_any _ _).mono ?_; rintro e w' ⟨rfl, rfl⟩) | (go_at_call 32; refine (isDigit_any _ _).mono ?_; rintro e w' ⟨rfl, rfl⟩))
            go_round
            case rel => exact ⟨k + 1, by omega, by omega, by go_num, hE⟩
            case measure => simp [intOf]; omega
        · have hA : nmB (bt s k) = false := by simpa using hA
          have hR := hide (scan_eq hik hk (fun j a b => hn j a b) (.inr hA))
          obtain ⟨k1, k2, k3, k4, k5, k6, _⟩ := nm_nocases hA
          clear hA
          go_wp2_with (first | (go_at_call 15; refine (isLetter_any _ _).mono ?_; rintro e w' ⟨rfl, rfl⟩) | (go_at_call 32; refine (isDigit_any _ _).mono ?_; rintro e w' ⟨rfl, rfl⟩))
          go_ret
          exact ⟨ret_int (by rw [hY.out, hR.out]; rfl), rfl⟩
      · obtain rfl : k = s.size := by omega
        have hR := hide (scan_eq hik hk (fun j a b => hn j a b) (.inl rfl))
        go_wp2
        go_ret
        exact ⟨ret_int (by rw [hY.out, hR.out]; rfl), rfl⟩
set_option maxHeartbeats 1000000 in
theorem parseAttrName_yes (s : ByteArray) (i : Nat) (w : World) (hs : s.size ≤ 1000) (h1 : i + 1 < s.size) (h2 : nsB (bt s i) = true) : Calls Tryz.prog 43 #[.string s, .int .i64 i] w fun e w' => e = .returned (.tuple #[.string (s.extract i (scan nmB s i)), .int .i64 (scan nmB s i : Nat), .bool true]) ∧ w = w' := by
  have hb := get_bt s
  have hS := scan_step (p := nmB) (i := i) (by omega) (ns_nm h2)
  have h1I : (i : Int) + 1 < (s.size : Int) := by omega
  have HS := hide hS
  have hc := ns_cases h2
  clear h2 hS
  rcases hc with g1 | ⟨g1, g2⟩ | ⟨g1, g2, g3⟩
  all_goals
    go_enter Tryz.func43, Tryz.ntmps43
    go_wp2_with (go_at_call 41; refine (isLetterM_any _ _).mono ?_; rintro e w' ⟨rfl, rfl⟩)
    go_loop [7] (fun i' => ∃ k : Nat, i + 1 ≤ k ∧ k ≤ s.size ∧ i' = .int .i64 k ∧ Hid (∀ j, i + 1 ≤ j → j < k → nmB (bt s j) = true)) (fun i => s.size - (intOf i).toNat)
    case atStart => exact ⟨i + 1, by omega, by omega, by go_num, fun j h h' => absurd h (by omega)⟩
    case round =>
      obtain ⟨k, hik, hk, rfl, hn⟩ := hrel
      have hikI : (i : Int) ≤ (k : Int) := by omega
      have hkI : (k : Int) ≤ (s.size : Int) := by omega
      by_cases hlt : k < s.size
      · by_cases hA : nmB (bt s k) = true
        · have hE : Hid (∀ j, i + 1 ≤ j → j < k + 1 → nmB (bt s j) = true) := by
            intro j a b
            by_cases e : j = k
            · subst e; exact hA
            · exact hn j a (by omega)
          have hcs := nm_cases2 hA
          clear hA
          rcases hcs with k1 | ⟨k1, k2⟩ | ⟨k1, k2, k3⟩ | ⟨k1, k2, k3, k4⟩
          all_goals
            go_wp2_with (go_at_call 42; refine (isLDH_any _ _).mono ?_; rw [k1]; rintro e w' ⟨rfl, rfl⟩)
            go_round
            case rel => exact ⟨k + 1, by omega, by omega, by go_num, hE⟩
            case measure => simp [intOf]; omega
        · have hA : nmB (bt s k) = false := by simpa using hA
          have hR := hide (scan_eq hik hk (fun j a b => hn j a b) (.inr hA))
          obtain ⟨_, _, k3, k4, k5, _, k1⟩ := nm_nocases hA
          clear hA
          go_wp2_with (go_at_call 42; refine (isLDH_any _ _).mono ?_; rw [k1]; rintro e w' ⟨rfl, rfl⟩)
          go_ret3
          exact ⟨by rw [HS.out, hR.out]; rfl, rfl⟩
      · obtain rfl : k = s.size := by omega
        have hR := hide (scan_eq hik hk (fun j a b => hn j a b) (.inl rfl))
        go_wp2
        go_ret3
        exact ⟨by rw [HS.out, hR.out]; rfl, rfl⟩
theorem parseAttrName_no (s : ByteArray) (i : Nat) (w : World) (hs : s.size ≤ 1000) (hi : i ≤ s.size) (h : ¬ (i + 1 < s.size ∧ nsB (bt s i) = true)) : Calls Tryz.prog 43 #[.string s, .int .i64 i] w fun e w' => e = .returned (.tuple #[.string ⟨#[]⟩, .int .i64 0, .bool false]) ∧ w = w' := by
  have hb := get_bt s
  by_cases h1 : i + 1 < s.size
  · have h2 : nsB (bt s i) = false := by
      have : ¬ nsB (bt s i) = true := fun x => h ⟨h1, x⟩
      simpa using this
    have h1I : (i : Int) + 1 < (s.size : Int) := by omega
    obtain ⟨g1, g2, g3⟩ := ns_nocases h2
    clear h2 h
    go_enter Tryz.func43, Tryz.ntmps43
    go_wp2_with (go_at_call 41; refine (isLetterM_any _ _).mono ?_; rintro e w' ⟨rfl, rfl⟩)
    go_ret3
    exact ⟨rfl, rfl⟩
  · have h1I : ¬ ((i : Int) + 1 < (s.size : Int)) := by omega
    clear h h1
    go_enter Tryz.func43, Tryz.ntmps43
    go_wp2
    go_ret3
    exact ⟨rfl, rfl⟩
end Go.Proofs.YtfmclgmcadiikaaGreat
