/- The reference's EscapeHTML. Conditions: texts of at most 10000 bytes. -/
import Derived.Test.YtecccieeikmfeaaGreatBuf
namespace Go.Proofs.YtecccieeikmfeaaGreat
open Go.RowKit
theorem escS_any (s : ByteArray) (w : World) (hs : s.size ≤ 10000) : Calls Tryz.prog 5 #[.string s] w fun e w' => e = .returned (.string (escF s s.size)) ∧ w = w' := by
  have hb := get_bt s
  go_enter Tryz.func5, Tryz.ntmps5
  go_wp2
  go_loop [3, 4] (fun o kv => ∃ (k : Nat) (t : ByteArray), k ≤ s.size ∧ o = .string t ∧ kv = .int .i64 k ∧ t.size ≤ 6 * k ∧ Hid (t = escF s k)) (fun _ kv => s.size - (intOf kv).toNat)
  case atStart => exact ⟨0, ByteArray.empty, by omega, rfl, rfl, by simp, rfl⟩
  case round =>
    obtain ⟨k, t, hk, rfl, rfl, hz, hT⟩ := hrel
    by_cases hlt : k < s.size
    · have st : ∀ x, oneS s k = x → Hid (t ++ x = escF s (k + 1)) := fun x h => by unfold Hid; rw [hT.out, escF, h]
      by_cases h38 : bt s k = 38
      · have hn := st _ (one_yes (m := 1) (by omega) h38)
        have c1 : (bt s k == 38) = true := by simp [h38]
        clear h38 st
        go_wp2
        go_round
        case rel => exact ⟨k + 1, _, by omega, rfl, by go_num, by (have h := esc_le s (k + 1); rw [← hn.out] at h; exact h), hn⟩
        case measure => simp [intOf]; omega
      · have c1 : (bt s k == 38) = false := by simp [h38]
        by_cases h60 : bt s k = 60
        · have hn := st _ (one_yes (m := 2) (by omega) h60)
          have c2 : (bt s k == 60) = true := by simp [h60]
          clear h38 h60 st
          go_wp2
          go_round
          case rel => exact ⟨k + 1, _, by omega, rfl, by go_num, by (have h := esc_le s (k + 1); rw [← hn.out] at h; exact h), hn⟩
          case measure => simp [intOf]; omega
        · have c2 : (bt s k == 60) = false := by simp [h60]
          by_cases h62 : bt s k = 62
          · have hn := st _ (one_yes (m := 3) (by omega) h62)
            have c3 : (bt s k == 62) = true := by simp [h62]
            clear h38 h60 h62 st
            go_wp2
            go_round
            case rel => exact ⟨k + 1, _, by omega, rfl, by go_num, by (have h := esc_le s (k + 1); rw [← hn.out] at h; exact h), hn⟩
            case measure => simp [intOf]; omega
          · have c3 : (bt s k == 62) = false := by simp [h62]
            by_cases h34 : bt s k = 34
            · have hn := st _ (one_yes (m := 0) (by omega) h34)
              have c4 : (bt s k == 34) = true := by simp [h34]
              clear h38 h60 h62 h34 st
              go_wp2
              go_round
              case rel => exact ⟨k + 1, _, by omega, rfl, by go_num, by (have h := esc_le s (k + 1); rw [← hn.out] at h; exact h), hn⟩
              case measure => simp [intOf]; omega
            · have c4 : (bt s k == 34) = false := by simp [h34]
              have hn := st _ (one_no (fun m hm => by
                match m, hm with
                | 0, _ => exact h34
                | 1, _ => exact h38
                | 2, _ => exact h60
                | 3, _ => exact h62))
              clear h38 h60 h62 h34 st
              go_wp2
              go_round
              case rel => exact ⟨k + 1, _, by omega, rfl, by go_num, by (have h := esc_le s (k + 1); rw [← hn.out] at h; exact h), hn⟩
              case measure => simp [intOf]; omega
    · obtain rfl : k = s.size := by omega
      go_wp2
      go_ret
      exact ⟨ret_str hT.out, rfl⟩
end Go.Proofs.YtecccieeikmfeaaGreat
