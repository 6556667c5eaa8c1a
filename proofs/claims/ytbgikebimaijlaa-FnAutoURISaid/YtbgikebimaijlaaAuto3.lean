/- The contract of parseAutoLinkURI. Conditions: texts of at most 1000 bytes. -/
import Derived.Test.YtbgikebimaijlaaAuto2
namespace Go.Proofs.Ytbgikebimaijlaa
open Go.RowKit
/-- The place of the > of an autolink with a scheme. -/
def auE (s : ByteArray) (i : Nat) : Option Nat :=
  if i + 1 < s.size ∧ bt s i = 60 ∧ ltB (bt s (i + 1)) = true ∧ i + 3 ≤ scan scB s (i + 1) ∧ scan scB s (i + 1) ≤ i + 33 ∧ scan scB s (i + 1) < s.size ∧ bt s (scan scB s (i + 1)) = 58 ∧ scan urB s (scan scB s (i + 1) + 1) < s.size ∧ bt s (scan urB s (scan scB s (i + 1) + 1)) = 62 then some (scan urB s (scan scB s (i + 1) + 1)) else none
def PA (s : ByteArray) (i : Nat) (w : World) (e : Ending) (w' : World) : Prop :=
  (auE s i = none → e = .returned (.tuple #[.nilIface, .int .i64 0, .bool false]) ∧ w = w') ∧ (∀ x, auE s i = some x → e = .returned (.tuple #[.iface 77 (.pointer (some ⟨w.heap.size, 0, none⟩)), .int .i64 ((x : Int) + 1), .bool true]) ∧ w.alloc (.cells #[.string (s.extract (i + 1) x), .string (s.extract (i + 1) x)] 79) = w')
theorem pa_no {s : ByteArray} {i : Nat} {w : World} (h : auE s i = none) : PA s i w (.returned (.tuple #[.nilIface, .int .i64 0, .bool false])) w :=
  ⟨fun _ => ⟨rfl, rfl⟩, fun x e => by rw [h] at e; cases e⟩
theorem sc_at {s : ByteArray} {a k : Nat} (ha : a ≤ s.size) (hk : k < s.size) (hn : ∀ j, a ≤ j → j < k + 1 → scB (bt s j) = true) : k + 1 ≤ scan scB s a := by
  obtain ⟨g1, g2, g3, g4⟩ := scan_is scB s ha
  apply Nat.le_of_not_lt
  intro h
  rcases g4 with g4 | g4
  · omega
  · rw [hn _ g1 (by omega)] at g4; cases g4
set_option maxRecDepth 100000 in
set_option maxHeartbeats 8000000 in
theorem parseAuto_any (s : ByteArray) (i : Nat) (w : World) (hs : s.size ≤ 1000) (hi : i ≤ s.size) : Calls Try.prog 39 #[.string s, .int .i64 i] w (PA s i w) := by
  have hb := get_bt s
  by_cases h1 : i + 1 < s.size
  case neg =>
    have hN : Hid (auE s i = none) := by unfold Hid auE; rw [if_neg (fun x => h1 x.1)]
    have h1I : (s.size : Int) ≤ (i : Int) + 1 := by omega
    clear h1
    go_enter Try.func39, Try.ntmps39
    go_wp2
    go_ret3
    exact pa_no hN.out
  have h1I : ¬ (s.size : Int) ≤ (i : Int) + 1 := by omega
  have h1J : (i : Int) + 1 < (s.size : Int) := by omega
  by_cases h2 : bt s i = 60
  case neg =>
    have hN : Hid (auE s i = none) := by unfold Hid auE; rw [if_neg (fun x => h2 x.2.1)]
    have c1 : (bt s i != 60) = true := by simpa using h2
    have c1' : (bt s i == 60) = false := by simpa using h2
    clear h2
    go_enter Try.func39, Try.ntmps39
    go_wp2
    go_ret3
    exact pa_no hN.out
  have c1 : (bt s i != 60) = false := by simp [h2]
  by_cases h3 : ltB (bt s (i + 1)) = true
  case neg =>
    have hN : Hid (auE s i = none) := by unfold Hid auE; rw [if_neg (fun x => h3 x.2.2.1)]
    have h3 : ltB (bt s (i + 1)) = false := by simpa using h3
    clear h2
    go_enter Try.func39, Try.ntmps39
    go_wp2_with (go_at_call 49; refine (isLetterM_any _ _).mono ?_; rw [h3]; rintro e w' ⟨rfl, rfl⟩)
    go_ret3
    exact pa_no hN.out
  have HU := hide h2
  clear h2
  go_enter Try.func39, Try.ntmps39
  go_wp2_with (go_at_call 49; refine (isLetterM_any _ _).mono ?_; rw [h3]; rintro e w' ⟨rfl, rfl⟩)
  go_loop [7] (fun i' => ∃ k : Nat, i + 1 ≤ k ∧ k ≤ s.size ∧ i' = .int .i64 k ∧ Hid (∀ j, i + 1 ≤ j → j < k → scB (bt s j) = true)) (fun i => s.size - (intOf i).toNat)
  case atStart => exact ⟨i + 1, by omega, by omega, by go_num, fun j h h' => absurd h (by omega)⟩
  case round =>
    obtain ⟨k, hik, hk, rfl, hn⟩ := hrel
    by_cases hlt : k < s.size
    · have hltI : (k : Int) < (s.size : Int) := by omega
      by_cases hA : scB (bt s k) = true
      · have hE : Hid (∀ j, i + 1 ≤ j → j < k + 1 → scB (bt s j) = true) := by
          intro j a b
          by_cases e : j = k
          · subst e; exact hA
          · exact hn j a (by omega)
        by_cases hd : k ≤ i + 33
        · have hdI : (k : Int) - ((i : Int) + 1) ≤ 32 := by omega
          go_wp2_with (go_at_call 50; refine (isScheme_any _ _).mono ?_; rw [hA]; rintro e w' ⟨rfl, rfl⟩)
          go_round
          case rel => exact ⟨k + 1, by omega, by omega, by go_num, hE⟩
          case measure => simp [intOf]; omega
        · have hdI : ¬ (k : Int) - ((i : Int) + 1) ≤ 32 := by omega
          have hdJ : ¬ (k : Int) - ((i : Int) + 1) < 2 := by omega
          have hM := sc_at (by omega) hlt hE.out
          have hN : Hid (auE s i = none) := by unfold Hid auE; rw [if_neg]; rintro ⟨_, _, _, _, x, _⟩; omega
          clear hM
          go_wp2_with (go_at_call 50; refine (isScheme_any _ _).mono ?_; rw [hA]; rintro e w' ⟨rfl, rfl⟩)
          go_ret3
          exact pa_no hN.out
      · have hA : scB (bt s k) = false := by simpa using hA
        have hR := scan_eq hik hk (fun j a b => hn j a b) (.inr hA)
        by_cases hd : i + 3 ≤ k
        case neg =>
          have hdI : (k : Int) - ((i : Int) + 1) < 2 := by omega
          have hN : Hid (auE s i = none) := by unfold Hid auE; rw [hR, if_neg]; rintro ⟨_, _, _, x, _⟩; omega
          clear hR
          go_wp2_with (go_at_call 50; refine (isScheme_any _ _).mono ?_; rw [hA]; rintro e w' ⟨rfl, rfl⟩)
          go_ret3
          exact pa_no hN.out
        have hdI : ¬ (k : Int) - ((i : Int) + 1) < 2 := by omega
        by_cases hd2 : k ≤ i + 33
        case neg =>
          have hdJ : ¬ (k : Int) - ((i : Int) + 1) ≤ 32 := by omega
          have hN : Hid (auE s i = none) := by unfold Hid auE; rw [hR, if_neg]; rintro ⟨_, _, _, _, x, _⟩; omega
          clear hR
          go_wp2_with (go_at_call 50; refine (isScheme_any _ _).mono ?_; rw [hA]; rintro e w' ⟨rfl, rfl⟩)
          go_ret3
          exact pa_no hN.out
        have hdJ : (k : Int) - ((i : Int) + 1) ≤ 32 := by omega
        by_cases hq : bt s k = 58
        case neg =>
          have cq : (bt s k != 58) = true := by simpa using hq
          have cq' : (bt s k == 58) = false := by simpa using hq
          have hN : Hid (auE s i = none) := by unfold Hid auE; rw [hR, if_neg]; rintro ⟨_, _, _, _, _, _, x, _⟩; exact hq x
          clear hR hq
          go_wp2_with (go_at_call 50; refine (isScheme_any _ _).mono ?_; rw [hA]; rintro e w' ⟨rfl, rfl⟩)
          go_ret3
          exact pa_no hN.out
        have cq : (bt s k != 58) = false := by simp [hq]
        have hlD : decide (s.size ≤ k) = false := by simp; omega
        have hlJ : ¬ (s.size : Int) ≤ (k : Int) := by omega
        have hD : Hid (∀ m, scan urB s (k + 1) = m → auE s i = if m < s.size ∧ bt s m = 62 then some m else none) := by
          intro m hm
          unfold auE
          rw [hR, hm]
          by_cases x : m < s.size ∧ bt s m = 62
          · rw [if_pos x, if_pos ⟨h1, HU.out, h3, hd, hd2, hlt, hq, x.1, x.2⟩]
          · rw [if_neg x, if_neg (fun y => x ⟨y.2.2.2.2.2.2.2.1, y.2.2.2.2.2.2.2.2⟩)]
        clear hR hq hn
        go_wp2_with (go_at_call 50; refine (isScheme_any _ _).mono ?_; rw [hA]; rintro e w' ⟨rfl, rfl⟩)
        go_loopw [7] (fun i' wr => w = wr ∧ ∃ j : Nat, k + 1 ≤ j ∧ j ≤ s.size ∧ i' = .int .i64 j ∧ Hid (∀ q, k + 1 ≤ q → q < j → urB (bt s q) = true)) (fun i _ => s.size - (intOf i).toNat)
        case atStart => exact ⟨rfl, k + 1, by omega, by omega, by go_num, fun j h h' => absurd h (by omega)⟩
        case round =>
          obtain ⟨hww, j, hkj, hj, rfl, hnj⟩ := hrel
          subst hww
          by_cases hjt : j < s.size
          · have hjI : (j : Int) < (s.size : Int) := by omega
            by_cases hB : urB (bt s j) = true
            · have hF : Hid (∀ q, k + 1 ≤ q → q < j + 1 → urB (bt s q) = true) := by
                intro q a b
                by_cases e : q = j
                · subst e; exact hB
                · exact hnj q a (by omega)
              go_wp2_with (go_at_call 51; refine (isURL_any _ _).mono ?_; rw [hB]; rintro e w' ⟨rfl, rfl⟩)
              go_roundw
              case rel => exact ⟨by trivial, j + 1, by omega, by omega, by go_num, hF⟩
              case measure => simp [intOf]; omega
            · have hB : urB (bt s j) = false := by simpa using hB
              have hS := scan_eq hkj hj (fun q a b => hnj q a b) (.inr hB)
              have hG := hD.out j hS
              by_cases hg : bt s j = 62
              case neg =>
                have cg : (bt s j != 62) = true := by simpa using hg
                have cg' : (bt s j == 62) = false := by simpa using hg
                rw [if_neg (fun x => hg x.2)] at hG
                have HG := hide hG
                clear hG hS hg
                go_wp2_with (go_at_call 51; refine (isURL_any _ _).mono ?_; rw [hB]; rintro e w' ⟨rfl, rfl⟩)
                go_ret3
                exact pa_no HG.out
              have cg : (bt s j != 62) = false := by simp [hg]
              rw [if_pos ⟨hjt, hg⟩] at hG
              have HG := hide hG
              have b1 : (i : Int) + 1 ≤ (j : Int) := by omega
              have b2 : (j : Int) ≤ (s.size : Int) := by omega
              have b3 : i + 1 ≤ j := by omega
              clear hG hS hg
              go_wp2_with (go_at_call 51; refine (isURL_any _ _).mono ?_; rw [hB]; rintro e w' ⟨rfl, rfl⟩)
              go_ret3
              exact ⟨fun h => (by rw [HG.out] at h; cases h), fun x h => (by rw [HG.out] at h; cases h; exact ⟨rfl, rfl⟩)⟩
          · obtain rfl : j = s.size := by omega
            have hG := hD.out _ (scan_eq hkj hj (fun q a b => hnj q a b) (.inl rfl))
            rw [if_neg (fun x => hjt x.1)] at hG
            have HG := hide hG
            clear hG
            have hjI : ¬ (s.size : Int) < (s.size : Int) := by omega
            go_wp2
            go_ret3
            exact pa_no HG.out
    · obtain rfl : k = s.size := by omega
      have hR := scan_eq hik hk (fun j a b => hn j a b) (.inl rfl)
      have hN : Hid (auE s i = none) := by unfold Hid auE; rw [hR, if_neg]; rintro ⟨_, _, _, _, _, x, _⟩; omega
      clear hR
      have hnI : ¬ (s.size : Int) < (s.size : Int) := by omega
      go_wp2
      all_goals
        go_ret3
        exact pa_no hN.out
end Go.Proofs.Ytbgikebimaijlaa
