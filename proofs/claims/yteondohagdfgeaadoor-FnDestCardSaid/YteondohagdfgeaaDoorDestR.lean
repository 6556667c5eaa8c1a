/- The contract of the reference's ReadDest. Conditions: texts of at most 1000 bytes without a number sign behind an ampersand; without brackets: of printable characters and line feeds, and not loose. -/
import Derived.Test.YteondohagdfgeaaDoorDestW
namespace Go.Proofs.YteondohagdfgeaaDoor
open Go.RowKit
def rdV (u : ByteArray) (a : Nat) : Option Nat → Nat → Value
  | some m, c => .tuple #[.string (unR (u.extract a m) 0), .int .i64 ((m + c : Nat) : Int)]
  | none, _ => .tuple #[.string ⟨#[]⟩, .int .i64 (-1)]
theorem lt60 {u : ByteArray} (h : bt u 0 = 60) : 0 < u.size := by
  rcases Nat.eq_zero_or_pos u.size with e | e
  · rw [bt_end u (by omega)] at h; cases h
  · exact e
set_option maxHeartbeats 2000000 in
theorem readDest_ang (u : ByteArray) (w : World) (hs : u.size ≤ 1000) (h60 : bt u 0 = 60) (hN : NoNum u) : Calls Tryd.prog 16 #[.string u] w fun e w' => e = .returned (rdV u 1 (angD u 1) 1) ∧ w = w' := by
  have hb := get_bt u
  have h0 := lt60 h60
  have HN := hide hN
  have c0 : (bt u 0 == 60) = true := by simp [h60]
  clear h60 hN
  go_enter Tryd.func16, Tryd.ntmps16
  go_wp2
  go_loop [4] (fun kv => ∃ k : Nat, 1 ≤ k ∧ k ≤ u.size ∧ kv = .int .i64 k ∧ Hid (angD u k = angD u 1)) (fun kv => u.size - (intOf kv).toNat)
  case atStart => exact ⟨1, by omega, by omega, by go_num, rfl⟩
  case round =>
    obtain ⟨k, hk1, hk, rfl, hA⟩ := hrel
    by_cases hlt : k < u.size
    · by_cases he : escB u k = true
      · have h2 : k + 1 < u.size := by
          unfold escB at he; simp only [Bool.and_eq_true, decide_eq_true_eq] at he; exact he.2.1
        have hn : Hid (angD u (k + 2) = angD u 1) := by unfold Hid; rw [← hA.out, ang_esc hlt he]
        go_wp2_with (go_at_call 25; refine (escaped_any u k _ hs hlt).mono ?_; rintro e w' ⟨rfl, rfl⟩)
        go_round
        case rel => exact ⟨k + 2, by omega, by omega, by go_num, hn⟩
        case measure => simp [intOf]; omega
      · have he : escB u k = false := by simpa using he
        by_cases h62 : bt u k = 62
        · have c1 : (bt u k == 62) = true := by simp [h62]
          have hn : Hid (rdV u 1 (angD u 1) 1 = rdV u 1 (some k) 1) := by unfold Hid; rw [← hA.out, ang_here hlt h62]
          have hC := fun W => unescapeS_any (u.extract 1 k) W (by rw [ByteArray.size_extract]; omega) (noNum_piece (by omega) HN.out)
          have C := hide hC
          clear hC h62
          go_wp2_with (first | (go_at_call 25; refine (escaped_any u k _ hs hlt).mono ?_; rintro e w' ⟨rfl, rfl⟩) | (go_at_call 9; refine (C.out _).mono ?_; rintro e w' ⟨rfl, rfl⟩))
          go_ret2
          exact ⟨by rw [hn.out]; rfl, rfl⟩
        · have c1 : (bt u k == 62) = false := by simp [h62]
          by_cases hst : bt u k = 60 ∨ bt u k = 10 ∨ bt u k = 13
          · have hn : Hid (rdV u 1 (angD u 1) 1 = rdV u 1 none 1) := by unfold Hid; rw [← hA.out, ang_stop hlt hst]
            rcases hst with h | h | h
            · have c2 : (bt u k == 60) = true := by simp [h]
              clear h h62
              go_wp2_with (go_at_call 25; refine (escaped_any u k _ hs hlt).mono ?_; rintro e w' ⟨rfl, rfl⟩)
              go_ret2
              exact ⟨by rw [hn.out]; rfl, rfl⟩
            · have c2 : (bt u k == 60) = false := by simp [h]
              have c3 : (bt u k == 10) = true := by simp [h]
              clear h h62
              go_wp2_with (go_at_call 25; refine (escaped_any u k _ hs hlt).mono ?_; rintro e w' ⟨rfl, rfl⟩)
              go_ret2
              exact ⟨by rw [hn.out]; rfl, rfl⟩
            · have c2 : (bt u k == 60) = false := by simp [h]
              have c3 : (bt u k == 10) = false := by simp [h]
              have c4 : (bt u k == 13) = true := by simp [h]
              clear h h62
              go_wp2_with (go_at_call 25; refine (escaped_any u k _ hs hlt).mono ?_; rintro e w' ⟨rfl, rfl⟩)
              go_ret2
              exact ⟨by rw [hn.out]; rfl, rfl⟩
          · have hn : Hid (angD u (k + 1) = angD u 1) := by unfold Hid; rw [← hA.out, ang_else hlt he h62 hst]
            have c2 : (bt u k == 60) = false := by simp; intro e; exact hst (.inl e)
            have c3 : (bt u k == 10) = false := by simp; intro e; exact hst (.inr (.inl e))
            have c4 : (bt u k == 13) = false := by simp; intro e; exact hst (.inr (.inr e))
            clear h62 hst
            go_wp2_with (go_at_call 25; refine (escaped_any u k _ hs hlt).mono ?_; rintro e w' ⟨rfl, rfl⟩)
            go_round
            case rel => exact ⟨k + 1, by omega, by omega, by go_num, hn⟩
            case measure => simp [intOf]; omega
    · have hn : Hid (rdV u 1 (angD u 1) 1 = rdV u 1 none 1) := by unfold Hid; rw [← hA.out, ang_end (by omega)]
      obtain rfl : k = u.size := by omega
      go_wp2
      go_ret2
      exact ⟨by rw [hn.out]; rfl, rfl⟩
/-- Bytes of a line: no controls but line feeds. -/
def LinedT (s : ByteArray) : Prop := ∀ k, k < s.size → bt s k = 10 ∨ (32 ≤ bt s k ∧ bt s k ≤ 126)
set_option maxHeartbeats 2000000 in
theorem readDest_run (u : ByteArray) (m : Nat) (w : World) (hs : u.size ≤ 1000) (h60 : bt u 0 ≠ 60) (hN : NoNum u) (hL : LinedT u) (hm : runD u 0 0 = some m) (h0 : 0 < m) :
    Calls Tryd.prog 16 #[.string u] w fun e w' => e = .returned (rdV u 0 (some m) 0) ∧ w = w' := by
  have hb := get_bt u
  have hmu := (run_le u.size 0 0 m (by omega) (by omega) hm).2
  have hz : 0 < u.size := by omega
  have HN := hide hN
  have HM := hide hm
  have HL := hide hL
  have c0 : (bt u 0 == 60) = false := by simp [h60]
  clear h60 hN hm hL
  go_enter Tryd.func16, Tryd.ntmps16
  go_wp2
  go_loop [5, 6] (fun dv kv => ∃ (d k : Nat), k ≤ u.size ∧ dv = .int .i64 d ∧ kv = .int .i64 k ∧ d ≤ k ∧ Hid (runD u k d = some m)) (fun _ kv => u.size - (intOf kv).toNat)
  case atStart => exact ⟨0, 0, by omega, rfl, rfl, Nat.le_refl _, HM⟩
  case round =>
    obtain ⟨d, k, hk, rfl, rfl, hdk, hR⟩ := hrel
    have ends : (u.size ≤ k ∨ blkB (bt u k) = true) → k = m ∧ d = 0 := fun h => by
      have := hR.out
      rw [run_end h] at this
      split at this
      · rename_i e; exact ⟨Option.some.inj this, e⟩
      · cases this
    have C : k = m → Hid (∀ W, Calls Tryd.prog 9 #[.string (u.extract 0 k)] W fun e w' => e = .returned (.string (unR (u.extract 0 k) 0)) ∧ W = w') := fun _ W => unescapeS_any (u.extract 0 k) W (by rw [ByteArray.size_extract]; omega) (noNum_piece (by omega) HN.out)
    by_cases hlt : k < u.size
    · by_cases hbk : blkB (bt u k) = true
      · obtain ⟨e1, e2⟩ := ends (.inr hbk)
        have C := C e1
        have hfin : Hid (rdV u 0 (some k) 0 = rdV u 0 (some m) 0) := by unfold Hid; rw [e1]
        have hkp : (0 : Int) < (k : Int) := by omega
        have ck : ((k : Int) == 0) = false := by simp; omega
        subst e2
        clear ends e1 HM
        have hline := HL.out k hlt
        by_cases h32 : bt u k = 32
        · have c1 : (bt u k != 32) = false := by simp [h32]
          clear h32 hline
          go_wp2_with (first | (go_at_call 9; refine (C.out _).mono ?_; rintro e w' ⟨rfl, rfl⟩))
          go_ret2
          exact ⟨by rw [← hfin.out]; rfl, rfl⟩
        · have c1 : (bt u k != 32) = true := by simp [h32]
          have c2 : ctlB (bt u k) = true := by
            unfold blkB at hbk
            unfold ctlB
            have := of_decide_eq_true hbk
            exact decide_eq_true (by omega)
          clear h32 hline
          go_wp2_with (first | (go_at_call 26; refine (isControl_any _ _).mono ?_; rintro e w' ⟨rfl, rfl⟩) | (go_at_call 9; refine (C.out _).mono ?_; rintro e w' ⟨rfl, rfl⟩))
          go_ret2
          exact ⟨by rw [← hfin.out]; rfl, rfl⟩
      · have hbk : blkB (bt u k) = false := by simpa using hbk
        have c1 : (bt u k != 32) = true := by simp; intro e; rw [e] at hbk; exact absurd hbk (by decide)
        have c2 : ctlB (bt u k) = false := by
          have hline := HL.out k hlt
          unfold blkB at hbk
          unfold ctlB
          have := of_decide_eq_false hbk
          exact decide_eq_false (by omega)
        clear ends
        by_cases he : escB u k = true
        · have he' := he
          unfold escB at he'; simp only [Bool.and_eq_true, decide_eq_true_eq] at he'
          have h2 := he'.2.1
          have hn : Hid (runD u (k + 2) d = some m) := by unfold Hid; rw [← hR.out, run_esc h2 he'.1 he'.2.2]
          clear he' C HM
          go_wp2_with (first | (go_at_call 26; refine (isControl_any _ _).mono ?_; rintro e w' ⟨rfl, rfl⟩) | (go_at_call 25; refine (escaped_any u k _ hs hlt).mono ?_; rintro e w' ⟨rfl, rfl⟩))
          go_round
          case rel => exact ⟨d, k + 2, by omega, by go_num, by go_num, by omega, hn⟩
          case measure => simp [intOf]; omega
        · have he : escB u k = false := by simpa using he
          have h92 : bt u k ≠ 92 := by
            intro e
            have := hR.out
            rw [run_bad hlt e (fun h => by unfold escB at he; simp [e, h.1, h.2] at he)] at this
            cases this
          by_cases h4 : bt u k = 40
          · have c4 : (bt u k == 40) = true := by simp [h4]
            have c5 : (bt u k == 41) = false := by simp [h4]
            have hn : Hid (runD u (k + 1) (d + 1) = some m) := by unfold Hid; rw [← hR.out, run_open hlt h4]
            clear h92 h4 C HM
            go_wp2_with (first | (go_at_call 26; refine (isControl_any _ _).mono ?_; rintro e w' ⟨rfl, rfl⟩) | (go_at_call 25; refine (escaped_any u k _ hs hlt).mono ?_; rintro e w' ⟨rfl, rfl⟩))
            go_round
            case rel => exact ⟨d + 1, k + 1, by omega, by go_num, by go_num, by omega, hn⟩
            case measure => simp [intOf]; omega
          · have c4 : (bt u k == 40) = false := by simp [h4]
            by_cases h5 : bt u k = 41
            · have c5 : (bt u k == 41) = true := by simp [h5]
              by_cases h6 : d = 0
              · subst h6
                have e1 : k = m := by
                  have := hR.out
                  rw [run_here hlt h5] at this
                  exact Option.some.inj this
                have C := C e1
                have hfin : Hid (rdV u 0 (some k) 0 = rdV u 0 (some m) 0) := by unfold Hid; rw [e1]
                have hkp : (0 : Int) < (k : Int) := by omega
                have ck : ((k : Int) == 0) = false := by simp; omega
                clear h92 h4 h5 e1 HM
                go_wp2_with (first | (go_at_call 26; refine (isControl_any _ _).mono ?_; rintro e w' ⟨rfl, rfl⟩) | (go_at_call 25; refine (escaped_any u k _ hs hlt).mono ?_; rintro e w' ⟨rfl, rfl⟩) | (go_at_call 9; refine (C.out _).mono ?_; rintro e w' ⟨rfl, rfl⟩))
                go_ret2
                exact ⟨by rw [← hfin.out]; rfl, rfl⟩
              · have c6 : ((d : Int) == 0) = false := by simp; omega
                have hn : Hid (runD u (k + 1) (d - 1) = some m) := by unfold Hid; rw [← hR.out, run_shut hlt h5 (by omega)]
                clear h92 h4 h5 C HM
                go_wp2_with (first | (go_at_call 26; refine (isControl_any _ _).mono ?_; rintro e w' ⟨rfl, rfl⟩) | (go_at_call 25; refine (escaped_any u k _ hs hlt).mono ?_; rintro e w' ⟨rfl, rfl⟩))
                go_round
                case rel => exact ⟨d - 1, k + 1, by omega, by rw [show ((d - 1 : Nat) : Int) = (d : Int) - 1 by omega], by go_num, by omega, hn⟩
                case measure => simp [intOf]; omega
            · have c5 : (bt u k == 41) = false := by simp [h5]
              have hn : Hid (runD u (k + 1) d = some m) := by unfold Hid; rw [← hR.out, run_else hlt hbk h92 h4 h5]
              clear h92 h4 h5 C HM
              go_wp2_with (first | (go_at_call 26; refine (isControl_any _ _).mono ?_; rintro e w' ⟨rfl, rfl⟩) | (go_at_call 25; refine (escaped_any u k _ hs hlt).mono ?_; rintro e w' ⟨rfl, rfl⟩))
              go_round
              case rel => exact ⟨d, k + 1, by omega, by go_num, by go_num, by omega, hn⟩
              case measure => simp [intOf]; omega
    · obtain ⟨e1, e2⟩ := ends (.inl (by omega))
      have C := C e1
      have hfin : Hid (rdV u 0 (some k) 0 = rdV u 0 (some m) 0) := by unfold Hid; rw [e1]
      have hkp : (0 : Int) < (k : Int) := by omega
      have ck : ((k : Int) == 0) = false := by simp; omega
      have hkI : ¬ ((k : Int) < (u.size : Int)) := by omega
      subst e2
      clear ends e1 HM hlt
      go_wp2_with (first | (go_at_call 9; refine (C.out _).mono ?_; rintro e w' ⟨rfl, rfl⟩))
      go_ret2
      exact ⟨by rw [← hfin.out]; rfl, rfl⟩
end Go.Proofs.YteondohagdfgeaaDoor
