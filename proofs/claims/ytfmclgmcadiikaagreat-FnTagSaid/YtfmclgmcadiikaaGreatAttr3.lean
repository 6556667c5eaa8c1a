/- Contracts of the reference's attrValue and of parseAttrValue. Conditions: texts of line feeds and printable bytes, of at most 1000 bytes. -/
import Derived.Test.YtfmclgmcadiikaaGreatAttr2
import Derived.Deep.QuietTactic
namespace Go.Proofs.YtfmclgmcadiikaaGreat
open Go.RowKit
/-- A value's bytes, as the reference has them: a carriage return ends one, too. -/
def uvS (c : Int) : Bool := !bkB c && (!decide (c = 34) && (!decide (c = 39) && (!decide (c = 61) && (!decide (c = 60) && (!decide (c = 62) && !decide (c = 96))))))
theorem uvS_uvB {s : ByteArray} (h : LinedT s) (i : Nat) : scan uvS s i = scan uvB s i := scan_at s (fun k hk => by
  have h13 : bt s k ≠ 13 := by rcases h k hk with h1 | h1 <;> omega
  rw [Bool.eq_iff_iff]; simp [uvS, uvB, bkB]; omega) i
abbrev uvA : ByteArray := ⟨#[32, 9, 10, 34, 39, 61, 60, 62, 96]⟩
theorem uvA_all : ∀ n : Fin 256, (inA uvA (n.val : Int) == !uvB (n.val : Int)) = true := by decide +kernel
theorem uvA_is (s : ByteArray) (k : Nat) : inA uvA (bt s k) = !uvB (bt s k) := by
  have := byte_all (q := fun c => inA uvA c == !uvB c) uvA_all s k
  simpa using this
theorem qt_cases {c : Int} (h : qtB c = true) : (c == 34) = true ∨ ((c == 34) = false ∧ (c == 39) = true) := by
  by_cases h1 : c = 34
  · exact .inl (by simp [h1])
  · exact .inr ⟨by simp [h1], by simpa [qtB, h1] using h⟩
theorem qt_no {c : Int} (h : qtB c = false) : (c == 34) = false ∧ (c == 39) = false := by
  simp only [qtB, decide_eq_false_iff_not] at h
  constructor <;> simp <;> omega
theorem uvS_yes {c : Int} (h : uvS c = true) : bkB c = false ∧ (c != 34) = true ∧ (c != 39) = true ∧ (c != 61) = true ∧ (c != 60) = true ∧ (c != 62) = true ∧ (c != 96) = true := by
  simp only [uvS, Bool.and_eq_true, Bool.not_eq_true', decide_eq_false_iff_not] at h
  obtain ⟨h0, h1, h2, h3, h4, h5, h6⟩ := h
  exact ⟨h0, by simpa using h1, by simpa using h2, by simpa using h3, by simpa using h4, by simpa using h5, by simpa using h6⟩
theorem uvS_no {c : Int} (h : uvS c = false) : bkB c = true ∨ (bkB c = false ∧ ((c != 34) = false ∨ ((c != 34) = true ∧ ((c != 39) = false ∨ ((c != 39) = true ∧ ((c != 61) = false ∨ ((c != 61) = true ∧ ((c != 60) = false ∨ ((c != 60) = true ∧ ((c != 62) = false ∨ ((c != 62) = true ∧ (c != 96) = false))))))))))) := by
  by_cases h0 : bkB c = true
  · exact .inl h0
  have h0 : bkB c = false := by simpa using h0
  refine .inr ⟨h0, ?_⟩
  by_cases h1 : c = 34
  · exact .inl (by simp [h1])
  refine .inr ⟨by simp [h1], ?_⟩
  by_cases h2 : c = 39
  · exact .inl (by simp [h2])
  refine .inr ⟨by simp [h2], ?_⟩
  by_cases h3 : c = 61
  · exact .inl (by simp [h3])
  refine .inr ⟨by simp [h3], ?_⟩
  by_cases h4 : c = 60
  · exact .inl (by simp [h4])
  refine .inr ⟨by simp [h4], ?_⟩
  by_cases h5 : c = 62
  · exact .inl (by simp [h5])
  refine .inr ⟨by simp [h5], ?_⟩
  simpa [uvS, h0, h1, h2, h3, h4, h5] using h
set_option maxHeartbeats 2000000 in
theorem attrValue_any (s : ByteArray) (i : Nat) (w : World) (hs : s.size ≤ 1000) (hi : i ≤ s.size) (hL : LinedT s) : Calls Tryz.prog 22 #[.string s, .int .i64 i] w fun e w' => e = .returned (.int .i64 (idxI (avE s i))) ∧ Below w.heap.size w w' := by
  have hb := get_bt s
  by_cases h1 : i < s.size
  case neg =>
    have hN : Hid (avE s i = none) := by unfold Hid avE; rw [if_neg h1]
    have h1I : (s.size : Int) ≤ (i : Int) := by omega
    clear h1 hL
    go_enter Tryz.func22, Tryz.ntmps22
    go_wp2
    go_ret
    exact ⟨ret_int (by rw [hN.out]; rfl), Below.refl _ _⟩
  have h1I : ¬ ((s.size : Int) ≤ (i : Int)) := by omega
  by_cases h2 : qtB (bt s i) = true
  · have hY : Hid (avE s i = (if scan (neB (bt s i)) s (i + 1) < s.size then some (scan (neB (bt s i)) s (i + 1) + 1) else none)) := by unfold Hid avE; rw [if_pos h1, if_pos h2]
    have hc := qt_cases h2
    clear h2 hL
    rcases hc with g1 | ⟨g1, g2⟩
    all_goals
      go_enter Tryz.func22, Tryz.ntmps22
      go_wp2
      go_loopw [5] (fun i' wr => ∃ k : Nat, Below w.heap.size w wr ∧ i + 1 ≤ k ∧ k ≤ s.size ∧ i' = .int .i64 k ∧ Hid (∀ j, i + 1 ≤ j → j < k → neB (bt s i) (bt s j) = true)) (fun i _ => s.size - (intOf i).toNat)
      case atStart => exact ⟨i + 1, Below.refl _ _, by omega, by omega, by go_num, fun j h h' => absurd h (by omega)⟩
      case round =>
        obtain ⟨k, hbe, hik, hk, rfl, hn⟩ := hrel
        have hiI : (i : Int) < (s.size : Int) := by omega
        by_cases hlt : k < s.size
        · by_cases hA : bt s k = bt s i
          · have hR := hide (scan_eq hik hk (fun j a b => hn j a b) (.inr (show neB (bt s i) (bt s k) = false by simp [neB, hA])))
            have c1 : (bt s k == bt s i) = true := by simp [hA]
            clear hA
            have hltI : (k : Int) < (s.size : Int) := by omega
            go_wp2
            go_quiet (fail)
            go_wp2
            go_ret
            exact ⟨ret_int (by rw [hY.out, hR.out, if_pos hlt]; simp [idxI]), below_drewN hbe _⟩
          · have hE : Hid (∀ j, i + 1 ≤ j → j < k + 1 → neB (bt s i) (bt s j) = true) := by
              intro j a b
              by_cases e : j = k
              · subst e; simp [neB, hA]
              · exact hn j a (by omega)
            have c1 : (bt s k == bt s i) = false := by simp [hA]
            clear hA
            have hltI : (k : Int) < (s.size : Int) := by omega
            go_wp2
            go_quiet (fail)
            go_wp2
            go_roundw
            case rel => exact ⟨k + 1, below_drewN hbe _, by omega, by omega, by go_num, hE⟩
            case measure => simp [intOf]; omega
        · obtain rfl : k = s.size := by omega
          have hR := hide (scan_eq hik hk (fun j a b => hn j a b) (.inl rfl))
          go_wp2
          go_ret
          exact ⟨ret_int (by rw [hY.out, hR.out, if_neg (by omega)]; rfl), hbe⟩
  · have h2 : qtB (bt s i) = false := by simpa using h2
    have hY : Hid (avE s i = (if i < scan uvS s i then some (scan uvS s i) else none)) := by unfold Hid avE; rw [if_pos h1, if_neg (by simp [h2]), uvS_uvB hL]
    obtain ⟨g1, g2⟩ := qt_no h2
    clear h2 hL
    go_enter Tryz.func22, Tryz.ntmps22
    go_wp2
    go_loop [6] (fun i' => ∃ k : Nat, i ≤ k ∧ k ≤ s.size ∧ i' = .int .i64 k ∧ Hid (∀ j, i ≤ j → j < k → uvS (bt s j) = true)) (fun i => s.size - (intOf i).toNat)
    case atStart => exact ⟨i, by omega, by omega, rfl, fun j h h' => absurd h (by omega)⟩
    case round =>
      obtain ⟨k, hik, hk, rfl, hn⟩ := hrel
      by_cases hlt : k < s.size
      · by_cases hA : uvS (bt s k) = true
        · have hE : Hid (∀ j, i ≤ j → j < k + 1 → uvS (bt s j) = true) := by
            intro j a b
            by_cases e : j = k
            · subst e; exact hA
            · exact hn j a (by omega)
          obtain ⟨k0, k1, k2, k3, k4, k5, k6⟩ := uvS_yes hA
          clear hA
          go_wp2_with (go_at_call 33; refine (isBlank_any _ _).mono ?_; rintro e w' ⟨rfl, rfl⟩)
          go_round
          case rel => exact ⟨k + 1, by omega, by omega, by go_num, hE⟩
          case measure => simp [intOf]; omega
        · have hA : uvS (bt s k) = false := by simpa using hA
          have hR := hide (scan_eq hik hk (fun j a b => hn j a b) (.inr hA))
          have hcs := uvS_no hA
          clear hA hn
          by_cases hne : k = i
          · subst hne
            have ce : ((k : Int) == (k : Int)) = true := by simp
            rcases hcs with k0 | ⟨k0, k1 | ⟨k1, k2 | ⟨k2, k3 | ⟨k3, k4 | ⟨k4, k5 | ⟨k5, k6⟩⟩⟩⟩⟩⟩
            all_goals
              go_wp2_with (go_at_call 33; refine (isBlank_any _ _).mono ?_; rintro e w' ⟨rfl, rfl⟩)
              go_ret
              exact ⟨ret_int (by rw [hY.out, hR.out, if_neg (Nat.lt_irrefl _)]; rfl), Below.refl _ _⟩
          · have ce : ((k : Int) == (i : Int)) = false := by simp; omega
            have hik2 : i < k := by omega
            rcases hcs with k0 | ⟨k0, k1 | ⟨k1, k2 | ⟨k2, k3 | ⟨k3, k4 | ⟨k4, k5 | ⟨k5, k6⟩⟩⟩⟩⟩⟩
            all_goals
              go_wp2_with (go_at_call 33; refine (isBlank_any _ _).mono ?_; rintro e w' ⟨rfl, rfl⟩)
              go_ret
              exact ⟨ret_int (by rw [hY.out, hR.out, if_pos hik2]; rfl), Below.refl _ _⟩
      · obtain rfl : k = s.size := by omega
        have hR := hide (scan_eq hik hk (fun j a b => hn j a b) (.inl rfl))
        have ce : ((s.size : Int) == (i : Int)) = false := by simp; omega
        go_wp2
        go_ret
        exact ⟨ret_int (by rw [hY.out, hR.out, if_pos h1]; rfl), Below.refl _ _⟩
end Go.Proofs.YtfmclgmcadiikaaGreat
