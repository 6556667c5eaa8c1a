/- The plain law of autolinks with a scheme: the reference's reading of the piece behind a place is the code's. Conditions: a text of line feeds and printable bytes; its byte at the place is <. -/
import Derived.Test.YtbgikebimaijlaaAuto4
namespace Go.Proofs.Ytbgikebimaijlaa
open Go.RowKit
theorem scan_ex (p : Int → Bool) (s : ByteArray) (a b k : Nat) (hb : b ≤ s.size) (hk : a + k ≤ b) : scan p (s.extract a b) k = min (scan p s (a + k)) b - a := by
  obtain ⟨g1, g2, g3, g4⟩ := scan_is p s (i := a + k) (by omega)
  have hz : (s.extract a b).size = b - a := by rw [ByteArray.size_extract]; omega
  refine scan_eq (by omega) (by omega) (fun j x y => ?_) ?_
  · rw [bt_extract s a b j (by omega) hb]; exact g3 _ (by omega) (by omega)
  · by_cases h : scan p s (a + k) < b
    · right
      rw [bt_extract _ _ _ _ (by omega) hb, show a + (min (scan p s (a + k)) b - a) = scan p s (a + k) by omega]
      rcases g4 with g4 | g4
      · omega
      · exact g4
    · left; omega
theorem rd_ur {s : ByteArray} (h : LinedT s) (i : Nat) : scan rdB s i = scan urB s i := scan_at s (fun k hk => by
  have := h k hk
  rw [Bool.eq_iff_iff]; simp [rdB, urB]; omega) i
theorem sc_ur {c : Int} (h : scB c = true) : urB c = true := by
  unfold scB at h
  rw [Bool.or_eq_true, Bool.or_eq_true, Bool.or_eq_true] at h
  simp [ldB] at h
  simp [urB]; omega
/-- A scan by a wider test goes on behind a scan by a narrower one. -/
theorem scan_wide {p q : Int → Bool} {s : ByteArray} {a : Nat} (ha : a ≤ s.size) (h : ∀ c, p c = true → q c = true) : scan p s a ≤ scan q s a ∧ scan q s (scan p s a) = scan q s a := by
  obtain ⟨g1, g2, g3, g4⟩ := scan_is p s ha
  obtain ⟨f1, f2, f3, f4⟩ := scan_is q s (i := scan p s a) g2
  have : scan q s a = scan q s (scan p s a) := scan_eq (by omega) f2 (fun k x y => by
    by_cases e : k < scan p s a
    · exact h _ (g3 k x e)
    · exact f3 k (by omega) y) f4
  exact ⟨by rw [this]; exact f1, this.symm⟩
theorem auE_law (s : ByteArray) (i : Nat) (hL : LinedT s) (hi : i < s.size) (hc : bt s i = 60) :
    auE s i = if 1 < (s.extract i s.size).size ∧ scan rdB (s.extract i s.size) 1 < (s.extract i s.size).size ∧ bt (s.extract i s.size) (scan rdB (s.extract i s.size) 1) = 62 ∧ schB ((s.extract i s.size).extract 1 (scan rdB (s.extract i s.size) 1)) = true then some (i + scan rdB (s.extract i s.size) 1) else none := by
  have hz : (s.extract i s.size).size = s.size - i := by rw [ByteArray.size_extract]; omega
  rw [hz]
  by_cases h1 : i + 1 < s.size
  case neg =>
    unfold auE
    rw [if_neg (fun x => h1 x.1), if_neg (fun x => by omega)]
  have hE : scan rdB (s.extract i s.size) 1 = scan urB s (i + 1) - i := by
    rw [scan_ex rdB s i s.size 1 (Nat.le_refl _) (by omega), rd_ur hL]
    have := (scan_is urB s (i := i + 1) (by omega)).2.1
    omega
  rw [hE]
  obtain ⟨e1, e2, e3, e4⟩ := scan_is urB s (i := i + 1) (by omega)
  obtain ⟨m1, m2, m3, m4⟩ := scan_is scB s (i := i + 1) (by omega)
  obtain ⟨w1, w2⟩ := scan_wide (p := scB) (q := urB) (s := s) (a := i + 1) (by omega) (fun c => sc_ur)
  have hx : (s.extract i s.size).extract 1 (scan urB s (i + 1) - i) = s.extract (i + 1) (scan urB s (i + 1)) := by
    refine ext_bt ?_ ?_
    · simp only [ByteArray.size_extract]; omega
    · intro k hk
      simp only [ByteArray.size_extract] at hk
      rw [bt_extract _ _ _ _ (by omega) (by omega), bt_extract _ _ _ _ (by omega) (by omega), bt_extract _ _ _ _ (by omega) (by omega)]
      congr 1; omega
  rw [hx]
  generalize hEe : scan urB s (i + 1) = E at *
  generalize hMm : scan scB s (i + 1) = M at *
  have ht : (s.extract (i + 1) E).size = E - (i + 1) := by rw [ByteArray.size_extract]; omega
  have hS : schB (s.extract (i + 1) E) = true ↔ (ltB (bt s (i + 1)) = true ∧ i + 3 ≤ M ∧ M ≤ i + 33 ∧ M < E ∧ bt s M = 58) := by
    have q1 : scan scB (s.extract (i + 1) E) 0 = M - (i + 1) := by
      rw [scan_ex scB s (i + 1) E 0 e2 (by omega), Nat.add_zero, hMm]; omega
    unfold schB
    rw [q1, ht]
    by_cases g : i + 1 < E
    · have b0 : bt (s.extract (i + 1) E) 0 = bt s (i + 1) := by rw [bt_extract _ _ _ _ (by omega) e2, Nat.add_zero]
      rw [b0]
      by_cases gm : M < E
      · have b1 : bt (s.extract (i + 1) E) (M - (i + 1)) = bt s M := by
          rw [bt_extract _ _ _ _ (by omega) e2, show i + 1 + (M - (i + 1)) = M by omega]
        rw [b1]
        simp only [Bool.and_eq_true, decide_eq_true_eq]
        constructor
        · rintro ⟨_, a, b, c, d, e⟩; exact ⟨a, by omega, by omega, gm, e⟩
        · rintro ⟨a, b, c, _, e⟩; exact ⟨by omega, a, by omega, by omega, by omega, e⟩
      · simp only [Bool.and_eq_true, decide_eq_true_eq]
        constructor
        · rintro ⟨_, a, b, c, d, e⟩; omega
        · rintro ⟨a, b, c, d, e⟩; omega
    · simp only [Bool.and_eq_true, decide_eq_true_eq]
      constructor
      · rintro ⟨a, _⟩; omega
      · rintro ⟨a, b, c, d, e⟩; omega
  have hB : E < s.size → bt (s.extract i s.size) (E - i) = bt s E := fun h => by
    rw [bt_extract _ _ _ _ (by omega) (Nat.le_refl _), show i + (E - i) = E by omega]
  have hC : bt s M = 58 → M < s.size → scan urB s (M + 1) = E := fun h h' => by
    have : urB (bt s M) = true := by rw [h]; rfl
    rw [← scan_step h' this, w2]
  unfold auE
  rw [hMm]
  by_cases A : i + 1 < s.size ∧ bt s i = 60 ∧ ltB (bt s (i + 1)) = true ∧ i + 3 ≤ M ∧ M ≤ i + 33 ∧ M < s.size ∧ bt s M = 58 ∧ scan urB s (M + 1) < s.size ∧ bt s (scan urB s (M + 1)) = 62
  · obtain ⟨a1, a2, a3, a4, a5, a6, a7, a8, a9⟩ := A
    have hc' := hC a7 a6
    rw [hc'] at a8 a9
    have gM : M < E := by
      apply Nat.lt_of_le_of_ne w1
      intro e; rw [e, a9] at a7; cases a7
    rw [if_pos ⟨a1, a2, a3, a4, a5, a6, a7, by rw [hc']; exact a8, by rw [hc']; exact a9⟩, if_pos ⟨by omega, by omega, by rw [hB a8]; exact a9, hS.2 ⟨a3, a4, a5, gM, a7⟩⟩, hc']
    congr 1; omega
  · rw [if_neg A, if_neg]
    rintro ⟨b1, b2, b3, b4⟩
    have b4 := hS.1 b4
    rw [hB (by omega)] at b3
    obtain ⟨c1, c2, c3, c4, c5⟩ := b4
    have hc' := hC c5 (by omega)
    exact A ⟨h1, hc, c1, c2, c3, by omega, c5, by rw [hc']; omega, by rw [hc']; exact b3⟩
end Go.Proofs.Ytbgikebimaijlaa
