/- The contract of the reference's ReadAuto. Conditions: texts of at most 1000 bytes. -/
import Derived.Test.YtbgikebimaijlaaAuto3
namespace Go.Proofs.Ytbgikebimaijlaa
open Go.RowKit
def rdB (c : Int) : Bool := !decide (c = 62) && (!decide (c = 60) && (!decide (c = 32) && !decide (c < 32 ∨ c = 127)))
theorem rd_cases {c : Int} (h : rdB c = false) : (c != 62) = false ∨ ((c != 62) = true ∧ (c != 60) = false) ∨ ((c != 62) = true ∧ (c != 60) = true ∧ (c != 32) = false) ∨ ((c != 62) = true ∧ (c != 60) = true ∧ (c != 32) = true ∧ decide (c < 32 ∨ c = 127) = true) := by
  by_cases h1 : c = 62
  · exact .inl (by simp [h1])
  by_cases h2 : c = 60
  · exact .inr (.inl ⟨by simp [h1], by simp [h2]⟩)
  by_cases h3 : c = 32
  · exact .inr (.inr (.inl ⟨by simp [h1], by simp [h2], by simp [h3]⟩))
  · exact .inr (.inr (.inr ⟨by simp [h1], by simp [h2], by simp [h3], by have g := h; simp [rdB, h1, h2, h3] at g; simp; omega⟩))
theorem rd_yes {c : Int} (h : rdB c = true) : (c != 62) = true ∧ (c != 60) = true ∧ (c != 32) = true ∧ decide (c < 32 ∨ c = 127) = false := by
  unfold rdB at h
  rw [Bool.and_eq_true, Bool.and_eq_true, Bool.and_eq_true] at h
  obtain ⟨h1, h2, h3, h4⟩ := h
  exact ⟨by simpa using h1, by simpa using h2, by simpa using h3, by simpa using h4⟩
abbrev mailS : ByteArray := ⟨#[109, 97, 105, 108, 116, 111, 58]⟩
/-- What ReadAuto returns: an autolink with a scheme, or none with one. -/
def RA (u : ByteArray) (v : Value) : Prop :=
  (1 < u.size ∧ scan rdB u 1 < u.size ∧ bt u (scan rdB u 1) = 62 ∧ schB (u.extract 1 (scan rdB u 1)) = true ∧ v = .tuple #[.string (u.extract 1 (scan rdB u 1)), .string (u.extract 1 (scan rdB u 1)), .int .i64 ((scan rdB u 1 : Int) + 1)])
  ∨ (¬ (1 < u.size ∧ scan rdB u 1 < u.size ∧ bt u (scan rdB u 1) = 62 ∧ schB (u.extract 1 (scan rdB u 1)) = true) ∧ (v = .tuple #[.string ⟨#[]⟩, .string ⟨#[]⟩, .int .i64 0] ∨ ∃ t n, v = .tuple #[.string t, .string (mailS ++ t), .int .i64 n]))
set_option maxRecDepth 100000 in
set_option maxHeartbeats 4000000 in
theorem readAuto_any (u : ByteArray) (w : World) (hs : u.size ≤ 1000) (h0 : 0 < u.size) (hc : bt u 0 = 60) : Calls Try.prog 19 #[.string u] w fun e w' => (∃ v, e = .returned v ∧ RA u v) ∧ w = w' := by
  have hb := get_bt u
  have c0 : (bt u 0 != 60) = false := by simp [hc]
  by_cases h1 : 1 < u.size
  case neg =>
    have h1I : (u.size : Int) < 2 := by omega
    have hN : Hid (RA u (.tuple #[.string ⟨#[]⟩, .string ⟨#[]⟩, .int .i64 0])) := .inr ⟨fun x => h1 x.1, .inl rfl⟩
    clear h1
    go_enter Try.func19, Try.ntmps19
    go_wp2
    go_ret3
    exact ⟨⟨_, rfl, hN.out⟩, rfl⟩
  have h1I : ¬ (u.size : Int) < 2 := by omega
  clear hc
  go_enter Try.func19, Try.ntmps19
  go_wp2
  go_loop [5] (fun i' => ∃ k : Nat, 1 ≤ k ∧ k ≤ u.size ∧ i' = .int .i64 k ∧ Hid (∀ j, 1 ≤ j → j < k → rdB (bt u j) = true)) (fun i => u.size - (intOf i).toNat)
  case atStart => exact ⟨1, by omega, by omega, rfl, fun j h h' => absurd h (by omega)⟩
  case round =>
    obtain ⟨k, hk1, hk, rfl, hn⟩ := hrel
    by_cases hlt : k < u.size
    · have hltI : (k : Int) < (u.size : Int) := by omega
      by_cases hA : rdB (bt u k) = true
      · have hE : Hid (∀ j, 1 ≤ j → j < k + 1 → rdB (bt u j) = true) := by
          intro j a b
          by_cases e : j = k
          · subst e; exact hA
          · exact hn j a (by omega)
        obtain ⟨k1, k2, k3, k4⟩ := rd_yes hA
        clear hA
        go_wp2_with (go_at_call 29; refine (isControl_any _ _).mono ?_; rw [k4]; rintro e w' ⟨rfl, rfl⟩)
        go_round
        case rel => exact ⟨k + 1, by omega, by omega, by go_num, hE⟩
        case measure => simp [intOf]; omega
      · have hA : rdB (bt u k) = false := by simpa using hA
        have hR := hide (scan_eq hk1 hk (fun j a b => hn j a b) (.inr hA))
        have cs : ((k : Int) == (u.size : Int)) = false := by rw [beq_eq_false_iff_ne]; omega
        have hcs := rd_cases hA
        clear hA hn
        by_cases hg : bt u k = 62
        case neg =>
          have hN : Hid (RA u (.tuple #[.string ⟨#[]⟩, .string ⟨#[]⟩, .int .i64 0])) := .inr ⟨by rw [hR.out]; exact fun x => hg x.2.2.1, .inl rfl⟩
          have cg : (bt u k != 62) = true := by simpa using hg
          clear hg
          rcases hcs with k1 | ⟨k1, k2⟩ | ⟨k1, k2, k3⟩ | ⟨k1, k2, k3, k4⟩
          · rw [k1] at cg; cases cg
          all_goals
            go_wp2_with (go_at_call 29; refine (isControl_any _ _).mono ?_; rw [k4]; rintro e w' ⟨rfl, rfl⟩)
            go_ret3
            exact ⟨⟨_, rfl, hN.out⟩, rfl⟩
        have cg : (bt u k != 62) = false := by simp [hg]
        have HG := hide hg
        have hkI : (1 : Int) ≤ (k : Int) := by omega
        clear hg hcs
        obtain ⟨t, ht⟩ : ∃ t, u.extract 1 k = t := ⟨_, rfl⟩
        have hz : t.size ≤ 1000 := by rw [← ht, ByteArray.size_extract]; omega
        have HT := hide ht
        cases hb1 : schB t with
        | true =>
          have hN : Hid (RA u (.tuple #[.string t, .string t, .int .i64 ((k : Int) + 1)])) := .inl (by rw [hR.out, ht]; exact ⟨h1, hlt, HG.out, hb1, rfl⟩)
          have C : ∀ wx : World, Calls Try.prog 30 #[.string (u.extract 1 k)] wx fun e w' => e = .returned (.bool true) ∧ wx = w' := fun wx => by
            have := scheme_any t wx hz
            rw [hb1, ← ht] at this; exact this
          have CH := hide C
          rw [← ht] at hN
          clear C hb1 ht HT hz
          go_wp2_with (go_at_call 30; refine (CH.out _).mono ?_; rintro e w' ⟨rfl, rfl⟩)
          go_ret3
          exact ⟨⟨_, rfl, hN.out⟩, rfl⟩
        | false =>
          have hM : ¬ (1 < u.size ∧ scan rdB u 1 < u.size ∧ bt u (scan rdB u 1) = 62 ∧ schB (u.extract 1 (scan rdB u 1)) = true) := by
            rw [hR.out, ht, hb1]; rintro ⟨_, _, _, x⟩; cases x
          have hN1 : Hid (RA u (.tuple #[.string ⟨#[]⟩, .string ⟨#[]⟩, .int .i64 0])) := .inr ⟨hM, .inl rfl⟩
          have hN2 : Hid (∀ n, RA u (.tuple #[.string (u.extract 1 k), .string (mailS ++ u.extract 1 k), .int .i64 n])) := fun n => .inr ⟨hM, .inr ⟨_, _, rfl⟩⟩
          have C : ∀ wx : World, Calls Try.prog 30 #[.string (u.extract 1 k)] wx fun e w' => e = .returned (.bool false) ∧ wx = w' := fun wx => by
            have := scheme_any t wx hz
            rw [hb1, ← ht] at this; exact this
          have CH := hide C
          have hz' : (u.extract 1 k).size ≤ 1000 := by rw [ht]; exact hz
          have D := fun wx => isAddress_any (u.extract 1 k) wx hz'
          have DH := hide D
          clear C D hb1 ht HT hz hM hz'
          go_wp2_with (first | (go_at_call 30; refine (CH.out _).mono ?_; rintro e w' ⟨rfl, rfl⟩) | (go_at_call 31; refine (DH.out _).mono ?_; rintro e w' ⟨⟨_ | _, rfl⟩, rfl⟩))
          all_goals
            go_ret3
            first | exact ⟨⟨_, rfl, hN1.out⟩, rfl⟩ | exact ⟨⟨_, rfl, hN2.out _⟩, rfl⟩
    · obtain rfl : k = u.size := by omega
      have hR := hide (scan_eq hk1 hk (fun j a b => hn j a b) (.inl rfl))
      have hN : Hid (RA u (.tuple #[.string ⟨#[]⟩, .string ⟨#[]⟩, .int .i64 0])) := .inr ⟨by rw [hR.out]; exact fun x => Nat.lt_irrefl _ x.2.1, .inl rfl⟩
      have hnI : ¬ (u.size : Int) < (u.size : Int) := by omega
      have cs : ((u.size : Int) == (u.size : Int)) = true := by simp
      go_wp2
      go_ret3
      exact ⟨⟨_, rfl, hN.out⟩, rfl⟩
end Go.Proofs.Ytbgikebimaijlaa
