/- Contracts of parseAttrValue and of zzContains. Conditions: texts of at most 1000 bytes. -/
import Derived.Test.YtfmclgmcadiikaaGreatAttr3
namespace Go.Proofs.YtfmclgmcadiikaaGreat
open Go.RowKit
theorem idx_eq : ∀ (l : List UInt8) (c : UInt8) (k : Nat), l[k]? = some c → (∀ j, j < k → l[j]? ≠ some c) → Lib.indexByte l c = (k : Int)
  | [], c, k, h, _ => by simp at h
  | b :: l, c, 0, h, _ => by
    have : b = c := by simpa using h
    unfold Lib.indexByte; simp [this]
  | b :: l, c, k + 1, h, hn => by
    have h0 : b ≠ c := fun e => hn 0 (by omega) (by simp [e])
    have ih := idx_eq l c k (by simpa using h) (fun j hj => by simpa using hn (j + 1) (by omega))
    unfold Lib.indexByte
    rw [ih]; simp [h0]
    try omega
theorem idx_no : ∀ (l : List UInt8) (c : UInt8), (∀ j : Nat, l[j]? ≠ some c) → Lib.indexByte l c = -1
  | [], c, _ => rfl
  | b :: l, c, hn => by
    have h0 : b ≠ c := fun e => hn 0 (by simp [e])
    have ih := idx_no l c (fun j => by simpa using hn (j + 1))
    unfold Lib.indexByte
    rw [ih]; simp [h0]
theorem list_bt (t : ByteArray) (c : Int) (h0 : 0 ≤ c) (h1 : c ≤ 255) (k : Nat) : t.data.toList[k]? = some (UInt8.ofNat c.toNat) ↔ k < t.size ∧ bt t k = c := by
  by_cases hk : k < t.size
  · have e : t.data.toList[k]? = some t[k] := by
      have : k < t.data.toList.length := by simpa using hk
      rw [List.getElem?_eq_getElem this]; rfl
    rw [e, ← get_bt t k hk]
    constructor
    · intro h
      have h := Option.some.inj h
      refine ⟨hk, ?_⟩
      rw [h, UInt8.toNat_ofNat']; omega
    · rintro ⟨_, h⟩
      congr 1
      apply UInt8.toNat_inj.1
      rw [UInt8.toNat_ofNat']; omega
  · have : t.data.toList[k]? = none := by
      rw [List.getElem?_eq_none_iff]; simpa using hk
    rw [this]; simp [hk]
theorem idx_scan (s : ByteArray) (a : Nat) (c : Int) (ha : a ≤ s.size) (h0 : 0 ≤ c) (h1 : c ≤ 255) : Lib.indexByte (s.extract a s.size).data.toList (UInt8.ofNat c.toNat) = (if scan (neB c) s a < s.size then ((scan (neB c) s a : Nat) : Int) - (a : Int) else -1) := by
  obtain ⟨g1, g2, g3, g4⟩ := scan_is (neB c) s ha
  have hz : (s.extract a s.size).size = s.size - a := by rw [ByteArray.size_extract]; omega
  have hne : ∀ j, a ≤ j → j < scan (neB c) s a → bt s j ≠ c := fun j x y => by have := g3 j x y; simpa [neB] using this
  by_cases hl : scan (neB c) s a < s.size
  · rw [if_pos hl]
    have hq : bt s (scan (neB c) s a) = c := by
      rcases g4 with g4 | g4
      · omega
      · simpa [neB] using g4
    rw [idx_eq _ _ (scan (neB c) s a - a) ((list_bt _ c h0 h1 _).2 ⟨by omega, by rw [bt_extract _ _ _ _ (by omega) (by omega), show a + (scan (neB c) s a - a) = scan (neB c) s a by omega, hq]⟩) (fun j hj h => by
      have := (list_bt _ c h0 h1 _).1 h
      rw [bt_extract _ _ _ _ (by omega) (by omega)] at this
      exact hne (a + j) (by omega) (by omega) this.2)]
    omega
  · rw [if_neg hl]
    refine idx_no _ _ (fun j h => ?_)
    have := (list_bt _ c h0 h1 _).1 h
    rw [bt_extract _ _ _ _ (by omega) (by omega)] at this
    exact hne (a + j) (by omega) (by omega) this.2
theorem uv_idx (c : Int) (h : inA uvA c = false) : Lib.indexByte uvA.data.toList (UInt8.ofNat c.toNat) < 0 := by
  have h0 := inA_idx uvA c
  rw [h] at h0
  simpa using h0
theorem uv_idx_not (c : Int) (h : inA uvA c = true) : ¬ Lib.indexByte uvA.data.toList (UInt8.ofNat c.toNat) < 0 := by
  have h0 := inA_idx uvA c
  rw [h] at h0
  simpa using h0
/-- What parseAttrValue returns. -/
def avV (s : ByteArray) (i : Nat) : Value := match avE s i with | some e => .tuple #[.string (s.extract i e), .int .i64 (e : Nat), .bool true] | none => .tuple #[.string ⟨#[]⟩, .int .i64 0, .bool false]
theorem qt_cases2 {c : Int} (h : qtB c = true) : (c == 39) = true ∨ ((c == 39) = false ∧ (c == 34) = true) := by
  by_cases h1 : c = 39
  · exact .inl (by simp [h1])
  · refine .inr ⟨by simp [h1], ?_⟩
    have : c = 34 ∨ c = 39 := by simpa [qtB] using h
    simp; omega
theorem av_flat {s : ByteArray} {i : Nat} (hi : i ≤ s.size) (h : ¬ (i < s.size ∧ qtB (bt s i) = true) ∨ (i < s.size ∧ qtB (bt s i) = true ∧ ¬ scan (neB (bt s i)) s (i + 1) < s.size)) : avE s i = (if i < scan uvB s i then some (scan uvB s i) else none) := by
  unfold avE
  by_cases h1 : i < s.size
  · rw [if_pos h1]
    by_cases h2 : qtB (bt s i) = true
    · rw [if_pos h2]
      rcases h with h | ⟨_, _, h3⟩
      · exact absurd ⟨h1, h2⟩ h
      · rw [if_neg h3]
        have : scan uvB s i = i := scan_stop hi (.inr (by
          have : bt s i = 34 ∨ bt s i = 39 := by simpa [qtB] using h2
          simp [uvB]; omega))
        rw [this, if_neg (Nat.lt_irrefl _)]
    · rw [if_neg h2]
  · rw [if_neg h1]
    have : scan uvB s i = i := scan_stop hi (.inl (by omega))
    rw [this, if_neg (Nat.lt_irrefl _)]
set_option maxHeartbeats 4000000 in
theorem parseAttrValue_any (s : ByteArray) (i : Nat) (w : World) (hs : s.size ≤ 1000) (hi : i ≤ s.size) : Calls Tryz.prog 48 #[.string s, .int .i64 i] w fun e w' => e = .returned (avV s i) ∧ Below w.heap.size w w' := by
  have hb := get_bt s
  by_cases hQ : i < s.size ∧ qtB (bt s i) = true ∧ scan (neB (bt s i)) s (i + 1) < s.size
  · obtain ⟨h1, h2, h3⟩ := hQ
    have hq0 := bt_nonneg s i
    have hq1 := bt_le s i
    have hI := idx_scan s (i + 1) (bt s i) (by omega) hq0 hq1
    rw [if_pos h3] at hI
    have hge := scan_ge (neB (bt s i)) s (i := i + 1) (by omega)
    have hN : Hid (avV s i = .tuple #[.string (s.extract i (scan (neB (bt s i)) s (i + 1) + 1)), .int .i64 ((scan (neB (bt s i)) s (i + 1) + 1 : Nat) : Int), .bool true]) := by unfold Hid avV avE; rw [if_pos h1, if_pos h2, if_pos h3]
    obtain ⟨j, hj⟩ : ∃ j, scan (neB (bt s i)) s (i + 1) = j := ⟨_, rfl⟩
    rw [hj] at hI hge hN h3
    clear hj
    rw [show j + 1 = i + 1 + (j - (i + 1)) + 1 by omega] at hN
    have h1I : (i : Int) < (s.size : Int) := by omega
    have h1J : (i : Int) + 1 ≤ (s.size : Int) := by omega
    have h1K : i + 1 ≤ s.size := by omega
    have hw1 : IntKind.i64.wrap ((i : Int) + 1) = ((i + 1 : Nat) : Int) := by
      simp only [IntKind.wrap_i64]; omega
    have e1 : Hid (Lib.indexByte (s.extract (i + 1) s.size).data.toList (UInt8.ofNat (bt s i).toNat) = ((j - (i + 1) : Nat) : Int)) := by unfold Hid; rw [hI]; omega
    have C : ∀ wx : World, Calls Tryz.prog 49 #[.string (s.extract (i + 1) s.size), .int .u8 (bt s i)] wx fun e w' => e = .returned (.int .i64 ((j - (i + 1) : Nat) : Int)) ∧ wx = w' := fun wx =>
      (indexByte_any _ _ wx).mono fun e w' h => by rw [e1.out] at h; exact h
    have CH := hide C
    have hc := qt_cases2 h2
    clear h2 hI C e1
    rcases hc with g1 | ⟨g1, g2⟩
    all_goals
      go_enter Tryz.func48, Tryz.ntmps48
      go_wp2
      go_region_with (first | (go_at_call 49; refine (CH.out _).mono ?_; rintro e w' ⟨rfl, rfl⟩))
      all_goals
        go_wp2
        go_ret3
        exact ⟨by rw [hN.out]; exact ret_mid (by push_cast; omega), (Below.refl _ _).drew⟩
  · have hF : Hid (avE s i = (if i < scan uvB s i then some (scan uvB s i) else none)) := av_flat hi (by
      by_cases a : i < s.size <;> by_cases b : qtB (bt s i) = true <;> simp_all)
    have hT : Hid (avV s i = (if i < scan uvB s i then .tuple #[.string (s.extract i (scan uvB s i)), .int .i64 (scan uvB s i : Nat), .bool true] else .tuple #[.string ⟨#[]⟩, .int .i64 0, .bool false])) := by
      unfold Hid avV; rw [hF.out]; by_cases hh : i < scan uvB s i
      · rw [if_pos hh, if_pos hh]
      · rw [if_neg hh, if_neg hh]
    clear hF
    by_cases h1 : i < s.size
    case neg =>
      have h1I : ¬ ((i : Int) < (s.size : Int)) := by omega
      clear hQ h1
      go_enter Tryz.func48, Tryz.ntmps48
      go_wp2
      go_loopw [9] (fun i' wr => ∃ k : Nat, Below w.heap.size w wr ∧ i ≤ k ∧ k ≤ s.size ∧ i' = .int .i64 k ∧ Hid (∀ j, i ≤ j → j < k → uvB (bt s j) = true)) (fun i' _ => s.size - (intOf i').toNat)
      case atStart => exact ⟨i, Below.refl _ _, Nat.le_refl _, by omega, rfl, fun j h h' => absurd h (by omega)⟩
      case round =>
        obtain ⟨k, hbe, hik, hk, rfl, hn⟩ := hrel
        obtain rfl : k = s.size := by omega
        have hR := hide (scan_eq hik hk (fun j a b => hn j a b) (.inl rfl))
        have ce : ¬ ((i : Int) < (s.size : Int)) := by omega
        go_wp2
        go_ret3
        exact ⟨by rw [hT.out, hR.out, if_neg (by omega)]; rfl, hbe⟩
    have h1I : (i : Int) < (s.size : Int) := by omega
    by_cases h2 : qtB (bt s i) = true
    · have h3 : ¬ scan (neB (bt s i)) s (i + 1) < s.size := fun h => hQ ⟨h1, h2, h⟩
      have hI := idx_scan s (i + 1) (bt s i) (by omega) (bt_nonneg s i) (bt_le s i)
      rw [if_neg h3] at hI
      have hw1 : IntKind.i64.wrap ((i : Int) + 1) = ((i + 1 : Nat) : Int) := by
        simp only [IntKind.wrap_i64]; omega
      have C : ∀ wx : World, Calls Tryz.prog 49 #[.string (s.extract (i + 1) s.size), .int .u8 (bt s i)] wx fun e w' => e = .returned (.int .i64 (-1)) ∧ wx = w' := fun wx =>
        (indexByte_any _ _ wx).mono fun e w' h => by rw [hI] at h; exact h
      have CH := hide C
      have hu : inA uvA (bt s i) = true := by
        rw [uvA_is]
        have : bt s i = 34 ∨ bt s i = 39 := by simpa [qtB] using h2
        rcases this with h | h <;> rw [h] <;> rfl
      have hR : Hid (scan uvB s i = i) := scan_stop hi (.inr (by have := uvA_is s i; rw [hu] at this; simpa using this.symm))
      have hu1 := uv_idx_not _ hu
      have hc := qt_cases2 h2
      clear h2 hI C h3 hQ hu
      rcases hc with g1 | ⟨g1, g2⟩
      all_goals
        go_enter Tryz.func48, Tryz.ntmps48
        go_wp2
        go_region_with (first | (go_at_call 49; refine (CH.out _).mono ?_; rintro e w' ⟨rfl, rfl⟩))
        all_goals
          go_wp2
          go_loopw [9] (fun i' wr => Below w.heap.size w wr ∧ i' = .int .i64 i) (fun _ _ => 1)
          case atStart => exact ⟨(Below.refl _ _).drew, rfl⟩
          case round =>
            obtain ⟨hbe, rfl⟩ := hrel
            have ce : ¬ ((i : Int) < (i : Int)) := by omega
            go_wp2_with (go_at_call 49; refine (indexByte_any _ _ _).mono ?_; rintro e w' ⟨rfl, rfl⟩)
            go_ret3
            exact ⟨by rw [hT.out, hR.out, if_neg (by omega)]; rfl, hbe⟩
    · have g1 : (bt s i == 39) = false := by
        by_cases x : bt s i = 39
        · exact absurd (by rw [x]; rfl) h2
        · simpa using x
      have g2 : (bt s i == 34) = false := by
        by_cases x : bt s i = 34
        · exact absurd (by rw [x]; rfl) h2
        · simpa using x
      clear hQ h2
      go_enter Tryz.func48, Tryz.ntmps48
      go_wp2
      go_loop [9] (fun i' => ∃ k : Nat, i ≤ k ∧ k ≤ s.size ∧ i' = .int .i64 k ∧ Hid (∀ j, i ≤ j → j < k → uvB (bt s j) = true)) (fun i => s.size - (intOf i).toNat)
      case atStart => exact ⟨i, by omega, by omega, rfl, fun j h h' => absurd h (by omega)⟩
      case round =>
        obtain ⟨k, hik, hk, rfl, hn⟩ := hrel
        have hikI : (i : Int) ≤ (k : Int) := by omega
        have hkI : (k : Int) ≤ (s.size : Int) := by omega
        by_cases hlt : k < s.size
        · have hltI : (k : Int) < (s.size : Int) := by omega
          by_cases hA : inA uvA (bt s k) = true
          · have hR := hide (scan_eq hik hk (fun j a b => hn j a b) (.inr (by have := uvA_is s k; rw [hA] at this; simpa using this.symm)))
            have hu1 := uv_idx_not _ hA
            clear hA hn
            by_cases hz : i < k
            · have hzI : (i : Int) < (k : Int) := by omega
              go_wp2_with (go_at_call 49; refine (indexByte_any _ _ _).mono ?_; rintro e w' ⟨rfl, rfl⟩)
              go_ret3
              exact ⟨by rw [hT.out, hR.out, if_pos hz]; rfl, Below.refl _ _⟩
            · have hzI : ¬ (i : Int) < (k : Int) := by omega
              go_wp2_with (go_at_call 49; refine (indexByte_any _ _ _).mono ?_; rintro e w' ⟨rfl, rfl⟩)
              go_ret3
              exact ⟨by rw [hT.out, hR.out, if_neg hz]; rfl, Below.refl _ _⟩
          · have hA : inA uvA (bt s k) = false := by simpa using hA
            have hB : uvB (bt s k) = true := by have := uvA_is s k; rw [hA] at this; simpa using this.symm
            have hE : Hid (∀ j, i ≤ j → j < k + 1 → uvB (bt s j) = true) := by
              intro j a b
              by_cases e : j = k
              · subst e; exact hB
              · exact hn j a (by omega)
            have hu1 := uv_idx _ hA
            clear hA hB
            go_wp2_with (go_at_call 49; refine (indexByte_any _ _ _).mono ?_; rintro e w' ⟨rfl, rfl⟩)
            go_round
            case rel => exact ⟨k + 1, by omega, by omega, by go_num, hE⟩
            case measure => simp [intOf]; omega
        · obtain rfl : k = s.size := by omega
          have hR := hide (scan_eq hik hk (fun j a b => hn j a b) (.inl rfl))
          have hzI : (i : Int) < (s.size : Int) := by omega
          go_wp2
          go_ret3
          exact ⟨by rw [hT.out, hR.out, if_pos h1]; rfl, Below.refl _ _⟩
end Go.Proofs.YtfmclgmcadiikaaGreat
