/- Contracts of loose, crowded, numbered, the reference's ReadDest and the package's parseLinkDest. Conditions: texts of at most 1000 bytes, as each states them. -/
import Derived.Test.YteondohagdfgeaaDoorDest
import Derived.Test.YteondohagdfgeaaDoorUnescCard
namespace Go.Proofs.YteondohagdfgeaaDoor
open Go.RowKit
theorem isBlank_any (c : Int) (w : World) : Calls Tryd.prog 13 #[.int .u8 c] w fun e w' => e = .returned (.bool (blkB c)) ∧ w = w' := by
  go_enter Tryd.func13, Tryd.ntmps13
  go_wp2
  all_goals (go_ret; exact ⟨ret_bool (by rw [Bool.eq_iff_iff]; simp [blkB]; try omega), rfl⟩)
def ctlB (c : Int) : Bool := decide (c < 32 ∨ c = 127)
theorem isControl_any (c : Int) (w : World) : Calls Tryd.prog 26 #[.int .u8 c] w fun e w' => e = .returned (.bool (ctlB c)) ∧ w = w' := by
  go_enter Tryd.func26, Tryd.ntmps26
  go_wp2
  all_goals (go_ret; exact ⟨ret_bool (by rw [Bool.eq_iff_iff]; simp [ctlB]; try omega), rfl⟩)
theorem escaped_any (u : ByteArray) (k : Nat) (w : World) (hs : u.size ≤ 1000) (hk : k < u.size) : Calls Tryd.prog 25 #[.string u, .int .i64 k] w fun e w' => e = .returned (.bool (escB u k)) ∧ w = w' := by
  have hb := get_bt u
  by_cases h1 : bt u k = 92
  · have c1 : (bt u k == 92) = true := by simp [h1]
    by_cases h2 : k + 1 < u.size
    · have hE : Hid (escB u k = pcB (bt u (k + 1))) := by unfold Hid escB; simp [h1, h2]
      clear h1
      go_enter Tryd.func25, Tryd.ntmps25
      go_wp2_with (go_at_call 22; refine (isPunctS_any _ _).mono ?_; rintro e w' ⟨rfl, rfl⟩)
      go_ret
      exact ⟨ret_bool hE.out.symm, rfl⟩
    · have hE : Hid (escB u k = false) := by unfold Hid escB; simp [h2]
      have h2I : ¬ ((k : Int) + 1 < (u.size : Int)) := by omega
      clear h1
      go_enter Tryd.func25, Tryd.ntmps25
      go_wp2
      go_ret
      exact ⟨ret_bool hE.out.symm, rfl⟩
  · have c1 : (bt u k == 92) = false := by simp [h1]
    have hE := hide (esc_92 h1)
    clear h1
    go_enter Tryd.func25, Tryd.ntmps25
    go_wp2
    go_ret
    exact ⟨ret_bool hE.out.symm, rfl⟩
theorem crowded_any (s : ByteArray) (w : World) (hs : s.size ≤ 1000) : Calls Tryd.prog 12 #[.string s] w fun e w' => e = .returned (.bool (decide (32 < cntP s s.size))) ∧ w = w' := by
  have hb := get_bt s
  go_enter Tryd.func12, Tryd.ntmps12
  go_wp2
  go_loop [3, 7] (fun n k => ∃ (c m : Nat), m ≤ s.size ∧ n = .int .i64 c ∧ k = .int .i64 m ∧ c ≤ m ∧ Hid (cntP s m = c)) (fun _ k => s.size - (intOf k).toNat)
  case atStart => exact ⟨0, 0, by omega, rfl, rfl, Nat.le_refl _, rfl⟩
  case round =>
    obtain ⟨c, m, hm, rfl, rfl, hc, hH⟩ := hrel
    by_cases hl : m < s.size
    · by_cases h1 : bt s m = 40
      · have c1 : (bt s m == 40) = true := by simp [h1]
        have hn : Hid (cntP s (m + 1) = c + 1) := by unfold Hid; rw [cnt_yes h1, hH.out]
        clear h1
        go_wp2
        go_round
        case rel => exact ⟨c + 1, m + 1, hl, by go_num, by go_num, by omega, hn⟩
        case measure => simp [intOf]; omega
      · have c1 : (bt s m == 40) = false := by simp [h1]
        have hn : Hid (cntP s (m + 1) = c) := by unfold Hid; rw [cnt_no h1, hH.out]
        clear h1
        go_wp2
        go_round
        case rel => exact ⟨c, m + 1, hl, rfl, by go_num, by omega, hn⟩
        case measure => simp [intOf]; omega
    · obtain rfl : m = s.size := by omega
      go_wp2
      go_ret
      exact ⟨ret_bool (by rw [hH.out, Bool.eq_iff_iff]; simp; omega), rfl⟩
set_option maxHeartbeats 1000000 in
theorem loose_any (u : ByteArray) (w : World) (hs : u.size ≤ 1000) : Calls Tryd.prog 14 #[.string u] w fun e w' => e = .returned (.bool (runD u 0 0).isNone) ∧ w = w' := by
  have hb := get_bt u
  go_enter Tryd.func14, Tryd.ntmps14
  go_wp2
  go_loop [3, 4] (fun dv kv => ∃ (d k : Nat), k ≤ u.size ∧ dv = .int .i64 d ∧ kv = .int .i64 k ∧ d ≤ k ∧ Hid (runD u k d = runD u 0 0)) (fun _ kv => u.size - (intOf kv).toNat)
  case atStart => exact ⟨0, 0, by omega, rfl, rfl, Nat.le_refl _, rfl⟩
  case round =>
    obtain ⟨d, k, hk, rfl, rfl, hdk, hR⟩ := hrel
    have ends : (u.size ≤ k ∨ blkB (bt u k) = true) → Hid ((runD u 0 0).isNone = decide (0 < d)) := fun h => by
      unfold Hid
      rw [← hR.out, run_end h]
      by_cases e : d = 0
      · subst e; rfl
      · rw [if_neg e, decide_eq_true (by omega)]; rfl
    by_cases hlt : k < u.size
    · by_cases hbk : blkB (bt u k) = true
      · have hE := ends (.inr hbk)
        clear ends
        go_wp2_with (go_at_call 13; refine (isBlank_any _ _).mono ?_; rintro e w' ⟨rfl, rfl⟩)
        go_ret
        exact ⟨ret_bool hE.out.symm, rfl⟩
      · have hbk : blkB (bt u k) = false := by simpa using hbk
        clear ends
        by_cases h1 : bt u k = 92
        · have c1 : (bt u k == 92) = true := by simp [h1]
          by_cases h2 : k + 1 < u.size
          · have c2 : (((k : Int) + 1) == (u.size : Int)) = false := by simp; omega
            by_cases h3 : pcB (bt u (k + 1)) = true
            · have hn : Hid (runD u (k + 2) d = runD u 0 0) := by unfold Hid; rw [← hR.out, run_esc h2 h1 h3]
              clear h1
              go_wp2_with (first | (go_at_call 13; refine (isBlank_any _ _).mono ?_; rintro e w' ⟨rfl, rfl⟩) | (go_at_call 22; refine (isPunctS_any _ _).mono ?_; rintro e w' ⟨rfl, rfl⟩))
              go_round
              case rel => exact ⟨d, k + 2, by omega, by go_num, by go_num, by omega, hn⟩
              case measure => simp [intOf]; omega
            · have hE : Hid ((runD u 0 0).isNone = true) := by unfold Hid; rw [← hR.out, run_bad hlt h1 (fun h => h3 h.2)]; rfl
              have h3 : pcB (bt u (k + 1)) = false := by simpa using h3
              clear h1
              go_wp2_with (first | (go_at_call 13; refine (isBlank_any _ _).mono ?_; rintro e w' ⟨rfl, rfl⟩) | (go_at_call 22; refine (isPunctS_any _ _).mono ?_; rintro e w' ⟨rfl, rfl⟩))
              go_ret
              exact ⟨ret_bool hE.out.symm, rfl⟩
          · have c2 : (((k : Int) + 1) == (u.size : Int)) = true := by simp; omega
            have hE : Hid ((runD u 0 0).isNone = true) := by unfold Hid; rw [← hR.out, run_bad hlt h1 (fun h => h2 h.1)]; rfl
            clear h1
            go_wp2_with (first | (go_at_call 13; refine (isBlank_any _ _).mono ?_; rintro e w' ⟨rfl, rfl⟩) | (go_at_call 22; refine (isPunctS_any _ _).mono ?_; rintro e w' ⟨rfl, rfl⟩))
            go_ret
            exact ⟨ret_bool hE.out.symm, rfl⟩
        · have c1 : (bt u k == 92) = false := by simp [h1]
          by_cases h4 : bt u k = 40
          · have c4 : (bt u k == 40) = true := by simp [h4]
            have hn : Hid (runD u (k + 1) (d + 1) = runD u 0 0) := by unfold Hid; rw [← hR.out, run_open hlt h4]
            clear h1 h4
            go_wp2_with (go_at_call 13; refine (isBlank_any _ _).mono ?_; rintro e w' ⟨rfl, rfl⟩)
            go_round
            case rel => exact ⟨d + 1, k + 1, by omega, by go_num, by go_num, by omega, hn⟩
            case measure => simp [intOf]; omega
          · have c4 : (bt u k == 40) = false := by simp [h4]
            by_cases h5 : bt u k = 41
            · have c5 : (bt u k == 41) = true := by simp [h5]
              by_cases h6 : d = 0
              · subst h6
                have hE : Hid ((runD u 0 0).isNone = false) := by unfold Hid; rw [← hR.out, run_here hlt h5]; rfl
                clear h1 h4 h5
                go_wp2_with (go_at_call 13; refine (isBlank_any _ _).mono ?_; rintro e w' ⟨rfl, rfl⟩)
                go_ret
                exact ⟨ret_bool hE.out.symm, rfl⟩
              · have c6 : ((d : Int) == 0) = false := by simp; omega
                have hn : Hid (runD u (k + 1) (d - 1) = runD u 0 0) := by unfold Hid; rw [← hR.out, run_shut hlt h5 (by omega)]
                clear h1 h4 h5
                go_wp2_with (go_at_call 13; refine (isBlank_any _ _).mono ?_; rintro e w' ⟨rfl, rfl⟩)
                go_round
                case rel => exact ⟨d - 1, k + 1, by omega, by rw [show ((d - 1 : Nat) : Int) = (d : Int) - 1 by omega], by go_num, by omega, hn⟩
                case measure => simp [intOf]; omega
            · have c5 : (bt u k == 41) = false := by simp [h5]
              have hn : Hid (runD u (k + 1) d = runD u 0 0) := by unfold Hid; rw [← hR.out, run_else hlt hbk h1 h4 h5]
              clear h1 h4 h5
              go_wp2_with (go_at_call 13; refine (isBlank_any _ _).mono ?_; rintro e w' ⟨rfl, rfl⟩)
              go_round
              case rel => exact ⟨d, k + 1, by omega, by go_num, by go_num, by omega, hn⟩
              case measure => simp [intOf]; omega
    · have hE := ends (.inl (by omega))
      clear ends
      go_wp2
      go_ret
      exact ⟨ret_bool hE.out.symm, rfl⟩
theorem numbered_any (s : ByteArray) (w : World) (hs : s.size ≤ 1000) : Calls Tryd.prog 11 #[.string s] w fun e w' => e = .returned (.bool (decide (0 < numN s))) ∧ w = w' := by
  have U := hide (until_num s w hs)
  go_enter Tryd.func11, Tryd.ntmps11
  go_wp2_with (go_at_call 7; refine U.out.mono ?_; rintro e w' ⟨rfl, rfl⟩)
  go_ret
  exact ⟨ret_bool (by simp), rfl⟩
end Go.Proofs.YteondohagdfgeaaDoor
