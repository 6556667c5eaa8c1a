/- The reference's HTML: its small functions: EscapeHTML, EscapeURL, titleAttr, taskHTML, digits, language. Conditions: as each states them. -/
import Derived.Test.YtipniinmajoolaaGreatDoorBl13
import Derived.Test.YtipniinmajoolaaGreatDoorChars
import Derived.BigQuiet
namespace Go.Proofs.YtipniinmajoolaaGreatDoor
open Go.RowKit
theorem escS_any (s : ByteArray) (w : World) (hs : s.size ≤ 10000) : Calls Tryz.prog 30 #[.string s] w fun e w' => e = .returned (.string (escF s s.size)) ∧ w = w' := by
  have hb := get_bt s
  go_enter Tryz.func30, Tryz.ntmps30
  go_wp2
  go_loop [3, 4] (fun o kv => ∃ (k : Nat) (t : ByteArray), k ≤ s.size ∧ o = .string t ∧ kv = .int .i64 k ∧ t.size ≤ 6 * k ∧ Hid (t = escF s k)) (fun _ kv => s.size - (intOf kv).toNat)
  case atStart => exact ⟨0, ByteArray.empty, by omega, rfl, rfl, by simp, rfl⟩
  case round =>
    obtain ⟨k, t, hk, rfl, rfl, hz, hT⟩ := hrel
    by_cases hlt : k < s.size
    · have st : ∀ x, oneS s k = x → Hid (t ++ x = escF s (k + 1)) := fun x h => by unfold Hid; rw [hT.out, escF, h]
      by_cases h38 : bt s k = 38
      · have hn := st _ (one_yes (m := 1) (by omega) h38)
        have c1 : (bt s k == 38) = true := by simp [h38]
        clear h38 st
        go_wp2
        go_round
        case rel => exact ⟨k + 1, _, by omega, rfl, by go_num, by (have h := esc_le s (k + 1); rw [← hn.out] at h; exact h), hn⟩
        case measure => simp [intOf]; omega
      · have c1 : (bt s k == 38) = false := by simp [h38]
        by_cases h60 : bt s k = 60
        · have hn := st _ (one_yes (m := 2) (by omega) h60)
          have c2 : (bt s k == 60) = true := by simp [h60]
          clear h38 h60 st
          go_wp2
          go_round
          case rel => exact ⟨k + 1, _, by omega, rfl, by go_num, by (have h := esc_le s (k + 1); rw [← hn.out] at h; exact h), hn⟩
          case measure => simp [intOf]; omega
        · have c2 : (bt s k == 60) = false := by simp [h60]
          by_cases h62 : bt s k = 62
          · have hn := st _ (one_yes (m := 3) (by omega) h62)
            have c3 : (bt s k == 62) = true := by simp [h62]
            clear h38 h60 h62 st
            go_wp2
            go_round
            case rel => exact ⟨k + 1, _, by omega, rfl, by go_num, by (have h := esc_le s (k + 1); rw [← hn.out] at h; exact h), hn⟩
            case measure => simp [intOf]; omega
          · have c3 : (bt s k == 62) = false := by simp [h62]
            by_cases h34 : bt s k = 34
            · have hn := st _ (one_yes (m := 0) (by omega) h34)
              have c4 : (bt s k == 34) = true := by simp [h34]
              clear h38 h60 h62 h34 st
              go_wp2
              go_round
              case rel => exact ⟨k + 1, _, by omega, rfl, by go_num, by (have h := esc_le s (k + 1); rw [← hn.out] at h; exact h), hn⟩
              case measure => simp [intOf]; omega
            · have c4 : (bt s k == 34) = false := by simp [h34]
              have hn := st _ (one_no (fun m hm => by
                match m, hm with
                | 0, _ => exact h34
                | 1, _ => exact h38
                | 2, _ => exact h60
                | 3, _ => exact h62))
              clear h38 h60 h62 h34 st
              go_wp2
              go_round
              case rel => exact ⟨k + 1, _, by omega, rfl, by go_num, by (have h := esc_le s (k + 1); rw [← hn.out] at h; exact h), hn⟩
              case measure => simp [intOf]; omega
    · obtain rfl : k = s.size := by omega
      go_wp2
      go_ret
      exact ⟨ret_str hT.out, rfl⟩

/-- The signs that stand in a destination as they are. -/
def safes : ByteArray := ⟨#[45, 95, 46, 43, 33, 42, 39, 40, 41, 44, 37, 35, 64, 63, 61, 59, 58, 47, 38, 36, 126, 124]⟩
theorem safes_not : ∀ k, k < 17 → bt safes k ≠ 47 := by decide
theorem safes_at : bt safes 17 = 47 := by decide
theorem isSafe_url (c : Int) (w : World) (h : urlB c = true) : Calls Tryz.prog 63 #[.int .u8 c] w fun e w' => e = .returned (.bool true) ∧ w = w' := by
  by_cases h47 : c = 47
  · subst h47
    have e1 : ltB 47 = false := by decide
    have e2 : dgB 47 = false := by decide
    have hb := get_bt safes
    unfold safes at hb
    clear h
    go_enter Tryz.func63, Tryz.ntmps63
    go_wp2_with (first | (go_at_call 65; refine (isLetter_any _ _).mono ?_; rintro e w' ⟨rfl, rfl⟩) | (go_at_call 66; refine (isDigit_any _ _).mono ?_; rintro e w' ⟨rfl, rfl⟩))
    go_loop [3] (fun i => ∃ k : Nat, k ≤ 17 ∧ i = .int .i64 k) (fun i => 17 - (intOf i).toNat)
    case atStart => exact ⟨0, by omega, rfl⟩
    case round =>
      obtain ⟨k, hk, rfl⟩ := hrel
      by_cases hlt : k < 17
      · have hn : (bt safes k == 47) = false := by simpa using safes_not k hlt
        unfold safes at hn
        have hlt2 : (k : Int) < 22 := by omega
        go_wp2
        go_round
        case rel => exact ⟨k + 1, by omega, by go_num⟩
        case measure => simp [intOf]; omega
      · obtain rfl : k = 17 := by omega
        have hn : (bt safes 17 == 47) = true := by simpa using safes_at
        unfold safes at hn
        go_wp2
        go_ret
        exact ⟨ret_bool rfl, rfl⟩
  · have hl : ltB c = true := by unfold urlB at h; unfold ltB; simp at h ⊢; omega
    go_enter Tryz.func63, Tryz.ntmps63
    go_wp2_with (first | (go_at_call 65; refine (isLetter_any _ _).mono ?_; rintro e w' ⟨rfl, rfl⟩) | (go_at_call 66; refine (isDigit_any _ _).mono ?_; rintro e w' ⟨rfl, rfl⟩))
    go_ret
    exact ⟨ret_bool rfl, rfl⟩
theorem ext_step (s : ByteArray) (k : Nat) : s.extract 0 k ++ s.extract k (k + 1) = s.extract 0 (k + 1) := by
  rw [ByteArray.extract_append_extract]; congr 1 <;> omega
theorem escURL_any (s : ByteArray) (w : World) (hs : s.size ≤ 100) (hu : Url s) : Calls Tryz.prog 57 #[.string s] w fun e w' => e = .returned (.string s) ∧ w = w' := by
  have hb := get_bt s
  have HU := hide hu
  clear hu
  go_enter Tryz.func57, Tryz.ntmps57
  go_wp2
  go_loop [3, 4] (fun o kv => ∃ (k : Nat) (t : ByteArray), k ≤ s.size ∧ o = .string t ∧ kv = .int .i64 k ∧ t.size ≤ k ∧ Hid (t = s.extract 0 k)) (fun _ kv => s.size - (intOf kv).toNat)
  case atStart => exact ⟨0, ByteArray.empty, by omega, rfl, rfl, by simp, by unfold Hid; simp⟩
  case round =>
    obtain ⟨k, t, hk, rfl, rfl, hz, hT⟩ := hrel
    by_cases hlt : k < s.size
    · have hc := HU.out k hlt
      have HC := hide hc
      have c1 : (bt s k == 38) = false := by unfold urlB at hc; simp at hc ⊢; omega
      have hn : Hid (t ++ s.extract k (k + 1) = s.extract 0 (k + 1)) := by unfold Hid; rw [hT.out, ext_step s k]
      have hq : Hid ((t ++ s.extract k (k + 1)).size ≤ k + 1) := by unfold Hid; rw [hn.out, ByteArray.size_extract]; omega
      clear hc
      go_wp2_with (go_at_call 63; refine (isSafe_url _ _ HC.out).mono ?_; rintro e w' ⟨rfl, rfl⟩)
      go_round
      case rel => exact ⟨k + 1, _, by omega, rfl, by go_num, hq.out, hn⟩
      case measure => simp [intOf]; omega
    · obtain rfl : k = s.size := by omega
      have he : s = t := by rw [hT.out, ByteArray.extract_zero_size]
      have HE := hide he
      clear he
      go_wp2
      go_ret
      exact ⟨ret_str HE.out.symm, rfl⟩
theorem titleS_none (w : World) : Calls Tryz.prog 58 #[.string ⟨#[]⟩] w fun e w' => e = .returned (.string ⟨#[]⟩) ∧ w = w' := by
  go_enter Tryz.func58, Tryz.ntmps58
  go_wp2
  go_ret
  exact ⟨ret_str rfl, rfl⟩
theorem taskS_none (w : World) : Calls Tryz.prog 56 #[.int .i64 0] w fun e w' => e = .returned (.string ⟨#[]⟩) ∧ w = w' := by
  go_enter Tryz.func56, Tryz.ntmps56
  go_wp2
  go_ret
  exact ⟨ret_str rfl, rfl⟩
theorem quiet_same {P : Program} {f : FuncId} {args : Array Value} {w : World} {n : Nat} {v : Value} (h : Calls P f args (w.drewN n) fun e w' => e = .returned v ∧ w.drewN n = w') :
    Calls P f args (w.drewN n) fun e w'' => e = .returned v ∧ ∃ m, w'' = w.drewN m :=
  Calls.quiet_of_same (h.mono fun _ _ ⟨he, hm⟩ => ⟨he, hm.symm⟩)
theorem dig_ext : ∀ n, n < 10 → (⟨#[48, 49, 50, 51, 52, 53, 54, 55, 56, 57]⟩ : ByteArray).extract n (n + 1) = digB n := by decide +kernel
theorem digits_one (n : Nat) (w : World) (hn : n < 10) : Calls Tryz.prog 27 #[.int .i64 n] w fun e w' => e = .returned (.string (digB n)) ∧ w = w' := by
  have h1 : (n : Int) < 10 := by omega
  have h2 : (n : Int) + 1 ≤ 10 := by omega
  go_enter Tryz.func27, Tryz.ntmps27
  go_wp2
  go_ret
  exact ⟨ret_str (by rw [← dig_ext n hn]), rfl⟩
theorem digits_any (n : Nat) (w : World) (hn : n < 100) : Calls Tryz.prog 27 #[.int .i64 n] w fun e w' => e = .returned (.string (dig n)) ∧ Below w.heap.size w w' := by
  by_cases h1 : n < 10
  · have e : dig n = digB n := if_pos h1
    rw [e]
    refine (digits_one n w h1).mono ?_
    rintro e w' ⟨rfl, rfl⟩
    exact ⟨rfl, Below.refl _ _⟩
  · have D1 := hide (fun wx => digits_one (n / 10) wx (by omega))
    have h2 : ¬ ((n : Int) < 10) := by omega
    have e2 : (n : Int) / 10 = ((n / 10 : Nat) : Int) := by omega
    have e3 : (n : Int) % 10 = ((n % 10 : Nat) : Int) := by omega
    have e4 : dig n = digB (n / 10) ++ digB (n % 10) := if_neg h1
    rw [e4]
    obtain ⟨a, ha⟩ : ∃ a, a = n / 10 := ⟨_, rfl⟩
    obtain ⟨b, hb⟩ : ∃ b, b = n % 10 := ⟨_, rfl⟩
    have hb9 : b < 10 := by omega
    have ha9 : a < 10 := by omega
    have h3 : (b : Int) + 1 ≤ 10 := by omega
    have HZ : Hid ((digB a).size = 1) := hide (by unfold digB; rfl)
    rw [← ha] at D1 e2
    rw [← hb] at e3
    rw [← ha, ← hb]
    obtain ⟨A, hA⟩ : ∃ A, A = digB a := ⟨_, rfl⟩
    have HB := hide (dig_ext b hb9)
    rw [← hA] at D1 HZ
    rw [← hA]
    have hAz := HZ.out
    clear ha hb e4 hA HZ
    go_enter Tryz.func27, Tryz.ntmps27
    go_wp2
    go_quiet (first | (go_at_call 27; refine quiet_same (D1.out _)))
    go_wp2
    go_ret
    exact ⟨ret_str (by rw [HB.out]), below_drewN (Below.refl _ _) _⟩
theorem isBlank_not (c : Int) (w : World) (h : 97 ≤ c) : Calls Tryz.prog 46 #[.int .u8 c] w fun e w' => e = .returned (.bool false) ∧ w = w' := by
  have h1 : (c == 32) = false := by simp; omega
  have h2 : (c == 9) = false := by simp; omega
  have h3 : (c == 10) = false := by simp; omega
  have h4 : (c == 13) = false := by simp; omega
  go_enter Tryz.func46, Tryz.ntmps46
  go_wp2
  go_ret
  exact ⟨ret_bool rfl, rfl⟩
theorem lang_any (t : ByteArray) (w : World) (hs : t.size ≤ 10) (hl : ∀ k, k < t.size → 97 ≤ bt t k ∧ bt t k ≤ 122) : Calls Tryz.prog 29 #[.string t] w fun e w' => e = .returned (.string (langH t)) ∧ w = w' := by
  have hb := get_bt t
  have HL := hide hl
  clear hl
  go_enter Tryz.func29, Tryz.ntmps29
  go_wp2
  go_loop [3] (fun kv => ∃ k : Nat, k ≤ t.size ∧ kv = .int .i64 k) (fun kv => t.size - (intOf kv).toNat)
  case atStart => exact ⟨0, by omega, rfl⟩
  case round =>
    obtain ⟨k, hk, rfl⟩ := hrel
    by_cases hlt : k < t.size
    · have hc := (HL.out k hlt).1
      have HC := hide hc
      clear hc
      go_wp2_with (go_at_call 46; refine (isBlank_not _ _ HC.out).mono ?_; rintro e w' ⟨rfl, rfl⟩)
      go_round
      case rel => exact ⟨k + 1, by omega, by go_num⟩
      case measure => simp [intOf]; omega
    · obtain rfl : k = t.size := by omega
      by_cases h0 : t.size = 0
      · have hH : Hid (langH t = ⟨#[]⟩) := hide (if_pos h0)
        go_wp2
        go_ret
        exact ⟨ret_str hH.out.symm, rfl⟩
      · have hH : Hid (langH t = (⟨#[32, 99, 108, 97, 115, 115, 61, 34, 108, 97, 110, 103, 117, 97, 103, 101, 45]⟩ : ByteArray) ++ escF t t.size ++ (⟨#[34]⟩ : ByteArray)) := hide (if_neg h0)
        have hz := esc_le t t.size
        have E1 := hide (fun wx => escS_any t wx (by omega))
        have hne : ((t.size : Int) == 0) = false := by
          rw [beq_eq_false_iff_ne]; omega
        have h0' : 0 < t.size := by omega
        obtain ⟨X, hX⟩ : ∃ X, X = escF t t.size := ⟨_, rfl⟩
        have hXz : X.size ≤ 60 := by rw [hX]; exact Nat.le_trans hz (by omega)
        rw [← hX] at hH E1
        have hex : t.extract 0 t.size = t := ByteArray.extract_zero_size
        clear hX hz h0
        go_wp2_with (go_at_call 30; refine (E1.out _).mono ?_; rintro e w' ⟨rfl, rfl⟩)
        go_ret
        exact ⟨ret_str hH.out.symm, rfl⟩
end Go.Proofs.YtipniinmajoolaaGreatDoor
