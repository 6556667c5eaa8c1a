/- Plain laws of destinations: how far one reaches, with and without angle brackets; and pieces of a text without other names and numbers. No program in sight. -/
import Derived.Test.YteondohagdfgeaaDoorUnescM
namespace Go.Proofs.YteondohagdfgeaaDoor
open Go.RowKit
def blkB (c : Int) : Bool := decide (c = 32 ∨ c = 9 ∨ c = 10 ∨ c = 13)
/-- The place where a destination without brackets ends; none, if it is loose. -/
def runD (u : ByteArray) (k d : Nat) : Option Nat :=
  if k < u.size ∧ blkB (bt u k) = false then
    (if bt u k = 92 then (if k + 1 < u.size ∧ pcB (bt u (k + 1)) = true then runD u (k + 2) d else none)
    else if bt u k = 40 then runD u (k + 1) (d + 1)
    else if bt u k = 41 then (if d = 0 then some k else runD u (k + 1) (d - 1))
    else runD u (k + 1) d)
  else if d = 0 then some k else none
termination_by u.size - k
decreasing_by all_goals omega
theorem run_end {u : ByteArray} {k d : Nat} (h : u.size ≤ k ∨ blkB (bt u k) = true) : runD u k d = if d = 0 then some k else none := by
  rw [runD, if_neg]
  rintro ⟨h1, h2⟩
  rcases h with h | h
  · omega
  · rw [h] at h2; cases h2
theorem run_esc {u : ByteArray} {k d : Nat} (h : k + 1 < u.size) (h1 : bt u k = 92) (h2 : pcB (bt u (k + 1)) = true) : runD u k d = runD u (k + 2) d := by
  rw [runD, if_pos ⟨by omega, by rw [h1]; decide⟩, if_pos h1, if_pos ⟨h, h2⟩]
theorem run_bad {u : ByteArray} {k d : Nat} (h : k < u.size) (h1 : bt u k = 92) (h2 : ¬ (k + 1 < u.size ∧ pcB (bt u (k + 1)) = true)) : runD u k d = none := by
  rw [runD, if_pos ⟨h, by rw [h1]; decide⟩, if_pos h1, if_neg h2]
theorem run_open {u : ByteArray} {k d : Nat} (h : k < u.size) (h1 : bt u k = 40) : runD u k d = runD u (k + 1) (d + 1) := by
  rw [runD, if_pos ⟨h, by rw [h1]; decide⟩, if_neg (by rw [h1]; decide), if_pos h1]
theorem run_shut {u : ByteArray} {k d : Nat} (h : k < u.size) (h1 : bt u k = 41) (hd : 0 < d) : runD u k d = runD u (k + 1) (d - 1) := by
  rw [runD, if_pos ⟨h, by rw [h1]; decide⟩, if_neg (by rw [h1]; decide), if_neg (by rw [h1]; decide), if_pos h1, if_neg (by omega)]
theorem run_here {u : ByteArray} {k : Nat} (h : k < u.size) (h1 : bt u k = 41) : runD u k 0 = some k := by
  rw [runD, if_pos ⟨h, by rw [h1]; decide⟩, if_neg (by rw [h1]; decide), if_neg (by rw [h1]; decide), if_pos h1, if_pos rfl]
theorem run_else {u : ByteArray} {k d : Nat} (h : k < u.size) (h0 : blkB (bt u k) = false) (h1 : bt u k ≠ 92) (h2 : bt u k ≠ 40) (h3 : bt u k ≠ 41) : runD u k d = runD u (k + 1) d := by
  rw [runD, if_pos ⟨h, h0⟩, if_neg h1, if_neg h2, if_neg h3]
theorem run_le {u : ByteArray} : ∀ (n k d m : Nat), u.size - k ≤ n → k ≤ u.size → runD u k d = some m → k ≤ m ∧ m ≤ u.size
  | n, k, d, m, hn, hk, h => by
    by_cases hs : k < u.size ∧ blkB (bt u k) = false
    · obtain ⟨h1, h2⟩ := hs
      match n with
      | 0 => omega
      | n + 1 =>
        by_cases g1 : bt u k = 92
        · by_cases g2 : k + 1 < u.size ∧ pcB (bt u (k + 1)) = true
          · rw [run_esc g2.1 g1 g2.2] at h
            have := run_le n (k + 2) d m (by omega) (by omega) h
            omega
          · rw [run_bad h1 g1 g2] at h; cases h
        · by_cases g2 : bt u k = 40
          · rw [run_open h1 g2] at h
            have := run_le n (k + 1) _ m (by omega) (by omega) h
            omega
          · by_cases g3 : bt u k = 41
            · by_cases g4 : d = 0
              · subst g4
                rw [run_here h1 g3] at h
                obtain rfl := Option.some.inj h
                omega
              · rw [run_shut h1 g3 (by omega)] at h
                have := run_le n (k + 1) _ m (by omega) (by omega) h
                omega
            · rw [run_else h1 h2 g1 g2 g3] at h
              have := run_le n (k + 1) _ m (by omega) (by omega) h
              omega
    · rw [runD, if_neg hs] at h
      split at h
      · obtain rfl := Option.some.inj h
        omega
      · cases h
/-- A destination does not end where it begins, unless there is a blank or a closing parenthesis. -/
theorem run_pos {u : ByteArray} {m : Nat} (h0 : 0 < u.size) (h1 : blkB (bt u 0) = false) (h2 : bt u 0 ≠ 41) (h : runD u 0 0 = some m) : 0 < m := by
  by_cases g1 : bt u 0 = 92
  · by_cases g2 : 0 + 1 < u.size ∧ pcB (bt u (0 + 1)) = true
    · rw [run_esc g2.1 g1 g2.2] at h
      have := run_le u.size (0 + 2) 0 m (by omega) (by omega) h
      omega
    · rw [run_bad h0 g1 g2] at h; cases h
  · by_cases g2 : bt u 0 = 40
    · rw [run_open h0 g2] at h
      have := run_le u.size (0 + 1) _ m (by omega) (by omega) h
      omega
    · rw [run_else h0 h1 g1 g2 h2] at h
      have := run_le u.size (0 + 1) _ m (by omega) (by omega) h
      omega
/-- The place of the bracket that ends a destination in brackets; none, if there is none. -/
def angD (u : ByteArray) (k : Nat) : Option Nat :=
  if k < u.size then
    (if escB u k = true then angD u (k + 2)
    else if bt u k = 62 then some k
    else if bt u k = 60 ∨ bt u k = 10 ∨ bt u k = 13 then none
    else angD u (k + 1))
  else none
termination_by u.size - k
decreasing_by all_goals omega
theorem ang_end {u : ByteArray} {k : Nat} (h : u.size ≤ k) : angD u k = none := by rw [angD, if_neg (by omega)]
theorem ang_esc {u : ByteArray} {k : Nat} (h : k < u.size) (he : escB u k = true) : angD u k = angD u (k + 2) := by rw [angD, if_pos h, if_pos he]
theorem esc_92 {u : ByteArray} {k : Nat} (h : bt u k ≠ 92) : escB u k = false := by unfold escB; rw [decide_eq_false h]; rfl
theorem ang_here {u : ByteArray} {k : Nat} (h : k < u.size) (h1 : bt u k = 62) : angD u k = some k := by
  rw [angD, if_pos h, if_neg (by rw [esc_92 (by rw [h1]; decide)]; simp), if_pos h1]
theorem ang_stop {u : ByteArray} {k : Nat} (h : k < u.size) (h1 : bt u k = 60 ∨ bt u k = 10 ∨ bt u k = 13) : angD u k = none := by
  rw [angD, if_pos h, if_neg (by rw [esc_92 (by rcases h1 with e | e | e <;> rw [e] <;> decide)]; simp), if_neg (by rcases h1 with e | e | e <;> rw [e] <;> decide), if_pos h1]
theorem ang_else {u : ByteArray} {k : Nat} (h : k < u.size) (he : escB u k = false) (h1 : bt u k ≠ 62) (h2 : ¬ (bt u k = 60 ∨ bt u k = 10 ∨ bt u k = 13)) : angD u k = angD u (k + 1) := by
  rw [angD, if_pos h, if_neg (by simp [he]), if_neg h1, if_neg h2]
/-- A backslash that escapes nothing, no line feed behind it: two bytes on. -/
theorem ang_two {u : ByteArray} {k : Nat} (h : k < u.size) (h1 : bt u k = 92) (hn : k + 1 < u.size → bt u (k + 1) ≠ 10 ∧ bt u (k + 1) ≠ 13) : angD u k = angD u (k + 2) := by
  by_cases he : escB u k = true
  · exact ang_esc h he
  · have he : escB u k = false := by simpa using he
    rw [ang_else h he (by rw [h1]; decide) (by rw [h1]; decide)]
    by_cases h2 : k + 1 < u.size
    · have h3 : pcB (bt u (k + 1)) = false := by
        unfold escB at he
        simpa [h1, h2] using he
      have h4 : bt u (k + 1) ≠ 92 ∧ bt u (k + 1) ≠ 62 ∧ bt u (k + 1) ≠ 60 := by
        refine ⟨?_, ?_, ?_⟩ <;> (intro e; rw [e] at h3; exact absurd h3 (by decide))
      obtain ⟨n1, n2⟩ := hn h2
      rw [ang_else h2 (esc_92 h4.1) h4.2.1 (by rintro (e | e | e); exact h4.2.2 e; exact n1 e; exact n2 e)]
    · rw [ang_end (by omega), ang_end (by omega)]
theorem ang_le {u : ByteArray} : ∀ (n k m : Nat), u.size - k ≤ n → angD u k = some m → k ≤ m ∧ m < u.size
  | n, k, m, hn, h => by
    by_cases hk : k < u.size
    · match n with
      | 0 => omega
      | n + 1 =>
        by_cases he : escB u k = true
        · rw [ang_esc hk he] at h
          have := ang_le n (k + 2) m (by omega) h
          omega
        · have he : escB u k = false := by simpa using he
          by_cases g1 : bt u k = 62
          · rw [ang_here hk g1] at h
            obtain rfl := Option.some.inj h
            omega
          · by_cases g2 : bt u k = 60 ∨ bt u k = 10 ∨ bt u k = 13
            · rw [ang_stop hk g2] at h; cases h
            · rw [ang_else hk he g1 g2] at h
              have := ang_le n (k + 1) m (by omega) h
              omega
    · rw [ang_end (by omega)] at h; cases h
/-! Pieces. -/
theorem noNum_piece {s : ByteArray} {a b : Nat} (hb : b ≤ s.size) (h : NoNum s) : NoNum (s.extract a b) := by
  intro k hk h0
  rw [ByteArray.size_extract] at hk
  rw [bt_extract s a b k (by omega) hb] at h0
  rw [bt_extract s a b (k + 1) (by omega) hb]
  exact h (a + k) (by omega) h0
theorem oth_parts {s : ByteArray} {k : Nat} (h : othB s k = true) : bt s k = 38 ∧ k + 1 < entE s k ∧ entE s k < s.size ∧ bt s (entE s k) = 59 ∧ (namedS (s.extract (k + 1) (entE s k))).size = 0 := by
  unfold othB at h
  simp only [Bool.and_eq_true, decide_eq_true_eq] at h
  exact h
theorem noOther_piece {s : ByteArray} {a b : Nat} (hb : b ≤ s.size) (h : NoOther s) : NoOther (s.extract a b) := by
  intro k hk
  by_cases g : othB (s.extract a b) k = true
  · obtain ⟨g1, g2, g3, g4, g5⟩ := oth_parts g
    rw [ByteArray.size_extract] at hk g3
    rw [bt_extract s a b _ (by omega) hb] at g1 g4
    obtain ⟨_, _, q3, _⟩ := scan_is ldB (s.extract a b) (i := k + 1) (by rw [ByteArray.size_extract]; omega)
    have hE : entE s (a + k) = a + entE (s.extract a b) k := by
      refine scan_eq (by omega) (by omega) (fun q h1 h2 => ?_) (.inr (by rw [g4]; decide))
      have := q3 (q - a) (by omega) (by show q - a < entE (s.extract a b) k; omega)
      rw [bt_extract s a b _ (by omega) hb, show a + (q - a) = q by omega] at this
      exact this
    have := h (a + k) (by omega)
    unfold othB at this
    rw [hE, decide_eq_true g1, decide_eq_true (show a + k + 1 < a + entE (s.extract a b) k by omega), decide_eq_true (show a + entE (s.extract a b) k < s.size by omega), decide_eq_true g4] at this
    rw [ByteArray.extract_extract, show min (a + entE (s.extract a b) k) b = a + entE (s.extract a b) k by omega] at g5
    rw [show a + k + 1 = a + (k + 1) by omega, decide_eq_true g5] at this
    cases this
  · simpa using g
/-- How many opening parentheses stand below a place. -/
def cntP (s : ByteArray) : Nat → Nat
  | 0 => 0
  | k + 1 => if bt s k = 40 then cntP s k + 1 else cntP s k
theorem cnt_yes {s : ByteArray} {k : Nat} (h : bt s k = 40) : cntP s (k + 1) = cntP s k + 1 := by rw [cntP, if_pos h]
theorem cnt_no {s : ByteArray} {k : Nat} (h : bt s k ≠ 40) : cntP s (k + 1) = cntP s k := by rw [cntP, if_neg h]
theorem cnt_mono (s : ByteArray) {k m : Nat} (h : k ≤ m) : cntP s k ≤ cntP s m := by
  induction h with
  | refl => exact Nat.le_refl _
  | step _ ih =>
    refine Nat.le_trans ih ?_
    rw [cntP]; split <;> omega
theorem cnt_le (s : ByteArray) : ∀ k, cntP s k ≤ k
  | 0 => Nat.le_refl _
  | k + 1 => by have := cnt_le s k; rw [cntP]; split <;> omega
end Go.Proofs.YteondohagdfgeaaDoor
