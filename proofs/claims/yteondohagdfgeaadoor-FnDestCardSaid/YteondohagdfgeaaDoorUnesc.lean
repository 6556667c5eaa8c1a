/- What unescaping a text gives, and the contract of the reference's Unescape, OtherName and Until. Conditions: texts of at most 1000 bytes without a number sign behind an ampersand. -/
import Derived.Test.YteondohagdfgeaaDoorEntity
import Derived.Test.YteondohagdfgeaaDoorMark
namespace Go.Proofs.YteondohagdfgeaaDoor
open Go.RowKit
/-! Punctuation. -/
def pcB (c : Int) : Bool := decide (33 ≤ c ∧ c ≤ 47 ∨ 58 ≤ c ∧ c ≤ 64 ∨ 91 ≤ c ∧ c ≤ 96 ∨ 123 ≤ c ∧ c ≤ 126)
theorem isPunctS_any (c : Int) (w : World) : Calls Tryd.prog 22 #[.int .u8 c] w fun e w' => e = .returned (.bool (pcB c)) ∧ w = w' := by
  go_enter Tryd.func22, Tryd.ntmps22
  go_wp2
  all_goals (go_ret; exact ⟨ret_bool (by rw [Bool.eq_iff_iff]; simp [pcB]; try omega), rfl⟩)
theorem isPunctM_any (c : Int) (w : World) : Calls Tryd.prog 34 #[.int .u8 c] w fun e w' => e = .returned (.bool (pcB c)) ∧ w = w' := by
  go_enter Tryd.func34, Tryd.ntmps34
  go_wp2
  all_goals (go_ret; exact ⟨ret_bool (by rw [Bool.eq_iff_iff]; simp [pcB]; try omega), rfl⟩)
/-- Does a backslash at a place escape the next byte? -/
def escB (s : ByteArray) (i : Nat) : Bool := decide (bt s i = 92) && (decide (i + 1 < s.size) && pcB (bt s (i + 1)))
theorem entN_pos {s : ByteArray} {i : Nat} (h : entC s i) : 2 ≤ entN s i ∧ i + entN s i ≤ s.size := by
  obtain ⟨_, e2⟩ := ent_yes h
  obtain ⟨h1, h2, h3, h4, h5, h6, h7⟩ := h
  omega
/-- What is left of a text from a place on. -/
def unR (s : ByteArray) (i : Nat) : ByteArray :=
  if i < s.size then (if escB s i = true then s.extract (i + 1) (i + 2) ++ unR s (i + 2) else if _h : entC s i then entT s i ++ unR s (i + entN s i) else s.extract i (i + 1) ++ unR s (i + 1)) else ByteArray.empty
termination_by s.size - i
decreasing_by
  · omega
  · have := entN_pos ‹entC s i›; omega
  · omega
theorem unR_esc {s : ByteArray} {i : Nat} (hi : i < s.size) (h : escB s i = true) : unR s i = s.extract (i + 1) (i + 2) ++ unR s (i + 2) := by
  rw [unR, if_pos hi, if_pos h]
theorem unR_ent {s : ByteArray} {i : Nat} (h : entC s i) : unR s i = entT s i ++ unR s (i + entN s i) := by
  have he : escB s i = false := by unfold escB; rw [h.2.1]; rfl
  rw [unR, if_pos h.1, if_neg (by simp [he]), dif_pos h]
theorem unR_one {s : ByteArray} {i : Nat} (hi : i < s.size) (h : escB s i = false) (g : ¬ entC s i) : unR s i = s.extract i (i + 1) ++ unR s (i + 1) := by
  rw [unR, if_pos hi, if_neg (by simp [h]), dif_neg g]
theorem unR_end {s : ByteArray} {i : Nat} (hi : s.size ≤ i) : unR s i = ByteArray.empty := by
  rw [unR, if_neg (by omega)]
theorem append_step {t p r x y : ByteArray} (h : t ++ x = y) (g : x = p ++ r) : t ++ p ++ r = y := by rw [← h, g, ByteArray.append_assoc]
theorem append_end {t x y : ByteArray} (h : t ++ x = y) (g : x = ByteArray.empty) : t = y := by rw [← h, g]; exact ByteArray.append_empty.symm
theorem ex_one {s : ByteArray} {i : Nat} (h : i < s.size) : (s.extract i (i + 1)).size = 1 := by rw [ByteArray.size_extract]; omega
theorem named_le (x : ByteArray) : (namedS x).size ≤ 1 := by
  unfold namedS; repeat' (split; · decide)
  decide
theorem entT_le (s : ByteArray) (i : Nat) : (entT s i).size ≤ 1 := by
  unfold entT; split
  · exact named_le _
  · decide
theorem unR_pos {s : ByteArray} {i : Nat} (hi : i < s.size) : 0 < (unR s i).size := by
  by_cases h : escB s i = true
  · have h2 : i + 1 < s.size := by
      unfold escB at h; simp only [Bool.and_eq_true, decide_eq_true_eq] at h; exact h.2.1
    rw [unR_esc hi h, ByteArray.size_append, ex_one h2]; omega
  · have h : escB s i = false := by simpa using h
    by_cases g : entC s i
    · rw [unR_ent g, ByteArray.size_append, (ent_yes g).1]
      have := g.2.2.2.2.2.2
      omega
    · rw [unR_one hi h g, ByteArray.size_append, ex_one hi]; omega
/-- A text without backslashes and ampersands stays as it is. -/
theorem unR_same {s : ByteArray} (h : ∀ k, k < s.size → bt s k ≠ 92 ∧ bt s k ≠ 38) : ∀ (n i : Nat), s.size - i ≤ n → i ≤ s.size → unR s i = s.extract i s.size
  | 0, i, hn, hi => by
    have e : i = s.size := by omega
    subst e
    rw [unR_end (Nat.le_refl _)]
    apply ByteArray.ext; simp
  | n + 1, i, hn, hi => by
    by_cases e : i = s.size
    · subst e
      rw [unR_end (Nat.le_refl _)]
      apply ByteArray.ext; simp
    · obtain ⟨h1, h2⟩ := h i (by omega)
      rw [unR_one (by omega) (by unfold escB; rw [decide_eq_false h1]; rfl) (fun g => h2 g.2.1), unR_same h n (i + 1) (by omega) (by omega)]
      rw [ByteArray.extract_append_extract]
      congr 1 <;> omega
/-! No other name. -/
def othB (s : ByteArray) (i : Nat) : Bool := decide (bt s i = 38) && (decide (i + 1 < entE s i) && (decide (entE s i < s.size) && (decide (bt s (entE s i) = 59) && decide ((namedS (s.extract (i + 1) (entE s i))).size = 0))))
def NoOther (s : ByteArray) : Prop := ∀ k, k < s.size → othB s k = false
def NoNum (s : ByteArray) : Prop := ∀ k, k + 1 < s.size → bt s k = 38 → bt s (k + 1) ≠ 35
def OtherIs (s : ByteArray) (w : World) (e : Ending) (w' : World) : Prop := ((e = .returned (.bool true)) ∨ (e = .returned (.bool false) ∧ NoOther s)) ∧ w = w'
set_option maxHeartbeats 1000000 in
theorem otherName_any (s : ByteArray) (w : World) (hs : s.size ≤ 1000) : Calls Tryd.prog 6 #[.string s] w (OtherIs s w) := by
  have hb := get_bt s
  go_enter Tryd.func6, Tryd.ntmps6
  go_wp2
  go_loop [3] (fun i => ∃ k : Nat, k ≤ s.size ∧ i = .int .i64 k ∧ Hid (∀ j, j < k → othB s j = false)) (fun i => s.size - (intOf i).toNat)
  case atStart => exact ⟨0, by omega, rfl, fun j h => absurd h (by omega)⟩
  case round =>
    obtain ⟨k, hk, rfl, hn⟩ := hrel
    by_cases hlt : k < s.size
    · have hend : othB s k = false → Hid (∀ j, j < k + 1 → othB s j = false) := fun h j hj => by
        by_cases e : j = k
        · subst e; exact h
        · exact hn j (by omega)
      by_cases h1 : bt s k = 38
      case neg =>
        have c1 : (bt s k != 38) = true := by simp [h1]
        have he := hend (by unfold othB; rw [decide_eq_false h1]; rfl)
        clear h1 hend
        go_wp2
        go_round
        case rel => exact ⟨k + 1, by omega, by go_num, he⟩
        case measure => simp [intOf]; omega
      have c1 : (bt s k != 38) = false := by simp [h1]
      have H1 := hide h1
      clear h1
      go_wp2
      go_loop [4] (fun e => ∃ m : Nat, k + 1 ≤ m ∧ m ≤ s.size ∧ e = .int .i64 m ∧ Hid (∀ j, k + 1 ≤ j → j < m → ldB (bt s j) = true)) (fun e => s.size - (intOf e).toNat)
      case atStart => exact ⟨k + 1, by omega, by omega, by go_num, fun j h h' => absurd h (by omega)⟩
      case round =>
        obtain ⟨m, hkm, hm, rfl, hnm⟩ := hrel
        have tail : (m = s.size ∨ ldB (bt s m) = false) → Hid (entE s k = m) := fun h => scan_eq hkm hm (fun j a b => hnm j a b) h
        by_cases hlm : m < s.size
        · by_cases hl : ldB (bt s m) = true
          · have hend2 : Hid (∀ j, k + 1 ≤ j → j < m + 1 → ldB (bt s j) = true) := by
              intro j a b
              by_cases e : j = m
              · subst e; exact hl
              · exact hnm j a (by omega)
            clear tail hend
            rcases ld_parts hl with g1 | ⟨g1, g2⟩
            all_goals
              go_wp2_with (first | (go_at_call 17; refine (isLetter_any _ _).mono ?_; rintro e w' ⟨rfl, rfl⟩) | (go_at_call 18; refine (isDigit_any _ _).mono ?_; rintro e w' ⟨rfl, rfl⟩))
              go_round
              case rel => exact ⟨m + 1, by omega, by omega, by go_num, hend2⟩
              case measure => simp [intOf]; omega
          · have hl : ldB (bt s m) = false := by simpa using hl
            obtain ⟨g1, g2⟩ := ld_noparts hl
            have hE := tail (.inr hl)
            clear tail hnm hl
            by_cases h4 : k + 1 < m
            · have h4I : (k : Int) + 1 < (m : Int) := by omega
              by_cases h5 : bt s m = 59
              · have c6 : (bt s m == 59) = true := by simp [h5]
                by_cases h6 : (namedS (s.extract (k + 1) m)).size = 0
                · have hne := empty_of h6
                  have hne2 : (namedS (s.extract (k + 1) m)).toList = [] := by simpa using hne
                  clear h5 h6 hend
                  go_wp2_with (first | (go_at_call 17; refine (isLetter_any _ _).mono ?_; rintro e w' ⟨rfl, rfl⟩) | (go_at_call 18; refine (isDigit_any _ _).mono ?_; rintro e w' ⟨rfl, rfl⟩) | (go_at_call 19; refine (named_any _ _).mono ?_; rintro e w' ⟨rfl, rfl⟩))
                  go_ret
                  exact ⟨.inl rfl, rfl⟩
                · have hne := nonempty_of (show 0 < (namedS (s.extract (k + 1) m)).size by omega)
                  have hne2 : (namedS (s.extract (k + 1) m)).toList ≠ [] := by simpa using hne
                  have he := hend (by unfold othB; rw [hE.out, decide_eq_false h6]; simp)
                  clear h5 h6 hend
                  go_wp2_with (first | (go_at_call 17; refine (isLetter_any _ _).mono ?_; rintro e w' ⟨rfl, rfl⟩) | (go_at_call 18; refine (isDigit_any _ _).mono ?_; rintro e w' ⟨rfl, rfl⟩) | (go_at_call 19; refine (named_any _ _).mono ?_; rintro e w' ⟨rfl, rfl⟩))
                  go_round
                  case rel => exact ⟨k + 1, by omega, by go_num, he⟩
                  case measure => simp [intOf]; omega
              · have c6 : (bt s m == 59) = false := by simp [h5]
                have he := hend (by unfold othB; rw [hE.out, decide_eq_false h5]; simp)
                clear h5 hend
                go_wp2_with (first | (go_at_call 17; refine (isLetter_any _ _).mono ?_; rintro e w' ⟨rfl, rfl⟩) | (go_at_call 18; refine (isDigit_any _ _).mono ?_; rintro e w' ⟨rfl, rfl⟩))
                go_round
                case rel => exact ⟨k + 1, by omega, by go_num, he⟩
                case measure => simp [intOf]; omega
            · obtain rfl : m = k + 1 := by omega
              have he := hend (by unfold othB; rw [hE.out, decide_eq_false (Nat.lt_irrefl _)]; simp)
              clear h4 hend
              go_wp2_with (first | (go_at_call 17; refine (isLetter_any _ _).mono ?_; rintro e w' ⟨rfl, rfl⟩) | (go_at_call 18; refine (isDigit_any _ _).mono ?_; rintro e w' ⟨rfl, rfl⟩))
              go_round
              case rel => exact ⟨k + 1, by omega, by go_num, he⟩
              case measure => simp [intOf]; omega
        · obtain rfl : m = s.size := by omega
          have hE := tail (.inl rfl)
          have he := hend (by unfold othB; rw [hE.out, decide_eq_false (Nat.lt_irrefl _)]; simp)
          clear tail hnm hend
          by_cases h4 : k + 1 < s.size
          · have h4I : (k : Int) + 1 < (s.size : Int) := by omega
            go_wp2
            go_round
            case rel => exact ⟨k + 1, by omega, by go_num, he⟩
            case measure => simp [intOf]; omega
          · have h4I : ¬ ((k : Int) + 1 < (s.size : Int)) := by omega
            go_wp2
            go_round
            case rel => exact ⟨k + 1, by omega, by go_num, he⟩
            case measure => simp [intOf]; omega
    · obtain rfl : k = s.size := by omega
      have hN : Hid (NoOther s) := fun j hj => hn j hj
      go_wp2
      go_ret
      exact ⟨.inr ⟨rfl, hN.out⟩, rfl⟩
/-! The reference's Unescape. -/
set_option maxHeartbeats 1000000 in
theorem unescapeS_any (s : ByteArray) (w : World) (hs : s.size ≤ 1000) (hno : NoNum s) : Calls Tryd.prog 9 #[.string s] w fun e w' => e = .returned (.string (unR s 0)) ∧ w = w' := by
  have HN := hide hno
  clear hno
  have hb := get_bt s
  go_enter Tryd.func9, Tryd.ntmps9
  go_wp2
  go_loop [3, 4] (fun o i => ∃ (k : Nat) (t : ByteArray), k ≤ s.size ∧ i = .int .i64 k ∧ o = .string t ∧ t.size ≤ k ∧ Hid (t ++ unR s k = unR s 0)) (fun _ i => s.size - (intOf i).toNat)
  case atStart => exact ⟨0, ByteArray.empty, by omega, rfl, rfl, by simp, ByteArray.empty_append⟩
  case round =>
    obtain ⟨k, t, hk, rfl, rfl, hz, hT⟩ := hrel
    by_cases hlt : k < s.size
    · by_cases he : escB s k = true
      · have ht := hide (append_step hT.out (unR_esc hlt he))
        unfold escB at he
        simp only [Bool.and_eq_true, decide_eq_true_eq] at he
        obtain ⟨e1, e2, e3⟩ := he
        have c1 : (bt s k == 92) = true := by simp [e1]
        have hz2 := hide (ex_one e2)
        clear e1
        go_wp2_with (go_at_call 22; refine (isPunctS_any _ _).mono ?_; rintro e w' ⟨rfl, rfl⟩)
        go_round
        case rel => exact ⟨k + 2, _, by omega, by go_num, rfl, by rw [ByteArray.size_append, hz2.out]; omega, ht⟩
        case measure => simp [intOf]; omega
      · have he : escB s k = false := by simpa using he
        have HE := hide he
        have C := hide (entity_any s k w hs hk (fun a b => HN.out k a b))
        by_cases hc : entC s k
        · have ht := hide (append_step hT.out (unR_ent hc))
          obtain ⟨p1, p2⟩ := entN_pos hc
          have p3 := entT_le s k
          have c1 : (bt s k == 92) = false := by simp [hc.2.1]
          have p1I : (0 : Int) < (entN s k : Int) := by omega
          clear hc he
          go_wp2_with (first | (go_at_call 22; refine (isPunctS_any _ _).mono ?_; rintro e w' ⟨rfl, rfl⟩) | (go_at_call 23; refine C.out.mono ?_; rintro e w' ⟨rfl, rfl⟩))
          go_round
          case rel => exact ⟨k + entN s k, _, by omega, by go_num, rfl, by rw [ByteArray.size_append]; omega, ht⟩
          case measure => simp [intOf]; omega
        · have ht := hide (append_step hT.out (unR_one hlt he hc))
          obtain ⟨_, e2⟩ := ent_no hc
          have hz2 := hide (ex_one hlt)
          rw [e2] at C
          clear hc he e2
          by_cases h1 : bt s k = 92
          · have c1 : (bt s k == 92) = true := by simp [h1]
            by_cases h2 : k + 1 < s.size
            · have h3 : pcB (bt s (k + 1)) = false := by
                have := HE.out
                unfold escB at this
                simpa [h1, h2] using this
              clear h1
              go_wp2_with (first | (go_at_call 22; refine (isPunctS_any _ _).mono ?_; rintro e w' ⟨rfl, rfl⟩) | (go_at_call 23; refine C.out.mono ?_; rintro e w' ⟨rfl, rfl⟩))
              go_round
              case rel => exact ⟨k + 1, _, by omega, by go_num, rfl, by rw [ByteArray.size_append, hz2.out]; omega, ht⟩
              case measure => simp [intOf]; omega
            · have h2I : ¬ ((k : Int) + 1 < (s.size : Int)) := by omega
              clear h1
              go_wp2_with (first | (go_at_call 22; refine (isPunctS_any _ _).mono ?_; rintro e w' ⟨rfl, rfl⟩) | (go_at_call 23; refine C.out.mono ?_; rintro e w' ⟨rfl, rfl⟩))
              go_round
              case rel => exact ⟨k + 1, _, by omega, by go_num, rfl, by rw [ByteArray.size_append, hz2.out]; omega, ht⟩
              case measure => simp [intOf]; omega
          · have c1 : (bt s k == 92) = false := by simp [h1]
            clear h1
            go_wp2_with (first | (go_at_call 22; refine (isPunctS_any _ _).mono ?_; rintro e w' ⟨rfl, rfl⟩) | (go_at_call 23; refine C.out.mono ?_; rintro e w' ⟨rfl, rfl⟩))
            go_round
            case rel => exact ⟨k + 1, _, by omega, by go_num, rfl, by rw [ByteArray.size_append, hz2.out]; omega, ht⟩
            case measure => simp [intOf]; omega
    · obtain rfl : k = s.size := by omega
      have hE := hide (append_end hT.out (unR_end (Nat.le_refl _)))
      clear hT
      go_wp2
      go_ret
      exact ⟨ret_str hE.out, rfl⟩
end Go.Proofs.YteondohagdfgeaaDoor
