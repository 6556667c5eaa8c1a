/- Plain laws of tags: where the attributes of an open tag end; a tail of a text. No program in sight. -/
import Derived.Test.YtfmclgmcadiikaaGreatAttrC
namespace Go.Proofs.YtfmclgmcadiikaaGreat
open Go.RowKit
def tcB (c : Int) : Bool := ldB c || decide (c = 45)
/-- The end of a tag's name. -/
def tnE (s : ByteArray) (i : Nat) : Option Nat := if i < s.size ∧ ltB (bt s i) = true then some (scan tcB s i) else none
def nmAt (s : ByteArray) (j : Nat) : Prop := j < scan blB s j ∧ scan blB s j < s.size ∧ nsB (bt s (scan blB s j)) = true
instance (s : ByteArray) (j : Nat) : Decidable (nmAt s j) := by unfold nmAt; infer_instance
def nmE (s : ByteArray) (j : Nat) : Nat := scan nmB s (scan blB s j)
def eqAt (s : ByteArray) (m : Nat) : Prop := scan blB s m < s.size ∧ bt s (scan blB s m) = 61
instance (s : ByteArray) (m : Nat) : Decidable (eqAt s m) := by unfold eqAt; infer_instance
def vlE (s : ByteArray) (m : Nat) : Option Nat := avE s (scan blB s (scan blB s m + 1))
/-- The place behind the attributes, and behind the blanks that follow them; none, if a value is missing. -/
def atF (s : ByteArray) : Nat → Nat → Option Nat
  | 0, _ => none
  | n + 1, j => if nmAt s j then (if eqAt s (nmE s j) then (match vlE s (nmE s j) with | none => none | some e => atF s n e) else atF s n (nmE s j)) else some (scan blB s j)
def atS (s : ByteArray) (j : Nat) : Option Nat := atF s (s.size + 1 - j) j
theorem nmE_gt {s : ByteArray} {j : Nat} (_ : j ≤ s.size) (h : nmAt s j) : scan blB s j < nmE s j ∧ j < nmE s j ∧ nmE s j ≤ s.size := by
  obtain ⟨h1, h2, h3⟩ := h
  have hs := scan_step (p := nmB) h2 (ns_nm h3)
  have hi := scan_is nmB s (i := scan blB s j + 1) (by omega)
  unfold nmE
  rw [hs]
  omega
theorem vlE_gt {s : ByteArray} {m e : Nat} (hm : m ≤ s.size) (he : eqAt s m) (h : vlE s m = some e) : m < e ∧ e ≤ s.size := by
  have h1 := scan_ge blB s hm
  have h2 := scan_is blB s (i := scan blB s m + 1) (by have := he.1; omega)
  have := avE_ge h2.2.1 h
  omega
theorem at_fuel {s : ByteArray} : ∀ (n n' j : Nat), s.size - j < n → s.size - j < n' → j ≤ s.size → atF s n j = atF s n' j
  | 0, _, _, h, _, _ => absurd h (by omega)
  | _ + 1, 0, _, _, h, _ => absurd h (by omega)
  | n + 1, n' + 1, j, h1, h2, hj => by
    rw [atF, atF]
    by_cases a : nmAt s j
    · obtain ⟨_, g1, g2⟩ := nmE_gt hj a
      rw [if_pos a, if_pos a]
      by_cases b : eqAt s (nmE s j)
      · rw [if_pos b, if_pos b]
        cases hv : vlE s (nmE s j) with
        | none => rfl
        | some e =>
          obtain ⟨g3, g4⟩ := vlE_gt g2 b hv
          exact at_fuel n n' e (by omega) (by omega) g4
      · rw [if_neg b, if_neg b]
        exact at_fuel n n' _ (by omega) (by omega) g2
    · rw [if_neg a, if_neg a]
theorem at_unf {s : ByteArray} {j : Nat} (hj : j ≤ s.size) : atS s j = if nmAt s j then (if eqAt s (nmE s j) then (match vlE s (nmE s j) with | none => none | some e => atS s e) else atS s (nmE s j)) else some (scan blB s j) := by
  unfold atS
  rw [show s.size + 1 - j = (s.size - j) + 1 by omega, atF]
  by_cases a : nmAt s j
  · obtain ⟨_, g1, g2⟩ := nmE_gt hj a
    rw [if_pos a, if_pos a]
    by_cases b : eqAt s (nmE s j)
    · rw [if_pos b, if_pos b]
      cases hv : vlE s (nmE s j) with
      | none => rfl
      | some e =>
        obtain ⟨g3, g4⟩ := vlE_gt g2 b hv
        exact at_fuel _ _ e (by omega) (by omega) g4
    · rw [if_neg b, if_neg b]
      exact at_fuel _ _ _ (by omega) (by omega) g2
  · rw [if_neg a, if_neg a]
theorem at_none {s : ByteArray} {j : Nat} (hj : j ≤ s.size) (h : ¬ nmAt s j) : atS s j = some (scan blB s j) := by rw [at_unf hj, if_neg h]
theorem at_plain {s : ByteArray} {j : Nat} (hj : j ≤ s.size) (h : nmAt s j) (hv : ¬ eqAt s (nmE s j)) : atS s j = atS s (nmE s j) := by rw [at_unf hj, if_pos h, if_neg hv]
theorem at_val {s : ByteArray} {j e : Nat} (hj : j ≤ s.size) (h : nmAt s j) (hv : eqAt s (nmE s j)) (he : vlE s (nmE s j) = some e) : atS s j = atS s e := by rw [at_unf hj, if_pos h, if_pos hv, he]
theorem at_bad {s : ByteArray} {j : Nat} (hj : j ≤ s.size) (h : nmAt s j) (hv : eqAt s (nmE s j)) (he : vlE s (nmE s j) = none) : atS s j = none := by rw [at_unf hj, if_pos h, if_pos hv, he]
/-- The end of a tag: a slash perhaps, and the bracket. -/
def finS (s : ByteArray) (a : Nat) : Nat := if a < s.size ∧ bt s a = 47 then a + 1 else a
def finE (s : ByteArray) (a : Nat) : Option Nat := if finS s a < s.size ∧ bt s (finS s a) = 62 then some (finS s a + 1) else none
def otE (s : ByteArray) (j : Nat) : Option Nat := (atS s j).bind (finE s)
theorem fin_none {s : ByteArray} {a : Nat} (h : a < s.size → bt s a ≠ 47 ∧ bt s a ≠ 62) : finE s a = none := by
  have e : finS s a = a := by
    unfold finS
    rw [if_neg]
    rintro ⟨g1, g2⟩
    exact (h g1).1 g2
  unfold finE
  rw [e, if_neg]
  rintro ⟨g1, g2⟩
  exact (h g1).2 g2
theorem bl_not {c : Int} (h : blB c = false) : c ≠ 32 ∧ c ≠ 9 ∧ c ≠ 10 := by unfold blB at h; have := of_decide_eq_false h; omega
theorem ns_not {c : Int} (h : nsB c = true) : c ≠ 47 ∧ c ≠ 62 ∧ c ≠ 61 ∧ blB c = false := by
  have : nmB c = true := ns_nm h
  refine ⟨?_, ?_, ?_, ?_⟩
  · rintro rfl; exact absurd h (by decide)
  · rintro rfl; exact absurd h (by decide)
  · rintro rfl; exact absurd h (by decide)
  · by_cases g : blB c = true
    · unfold blB at g
      rcases of_decide_eq_true g with e | e | e <;> (subst e; exact absurd h (by decide))
    · simpa using g
/-- May a tag go on with the byte behind a name or a value? -/
def okB (c : Int) : Bool := decide (c = 32 ∨ c = 9 ∨ c = 10 ∨ c = 47 ∨ c = 62)
theorem ot_out {s : ByteArray} {j : Nat} (hj : j ≤ s.size) (h : j = s.size ∨ okB (bt s j) = false) : otE s j = none := by
  have hb : j = s.size ∨ blB (bt s j) = false := by
    rcases h with h | h
    · exact .inl h
    · right; unfold okB at h; have := of_decide_eq_false h; unfold blB; exact decide_eq_false (by omega)
  have hs := scan_stop (p := blB) hj hb
  unfold otE
  rw [at_none hj (fun x => by have := x.1; omega), hs]
  show finE s j = none
  refine fin_none fun g => ?_
  rcases h with h | h
  · omega
  · unfold okB at h; have := of_decide_eq_false h; omega
theorem ot_end {s : ByteArray} {j : Nat} (hj : j ≤ s.size) (h : atE s (scan blB s j) = none) : otE s j = finE s (scan blB s j) := by
  have hn : ¬ (scan blB s j + 1 < s.size ∧ nsB (bt s (scan blB s j)) = true) := by
    intro x; unfold atE at h; rw [if_pos x] at h; cases h
  unfold otE
  by_cases a : nmAt s j
  · obtain ⟨g0, g1, g2⟩ := nmE_gt hj a
    have hz : nmE s j = s.size := by have := a.2.1; have := a.2.2; by_cases q : scan blB s j + 1 < s.size; exact absurd ⟨q, a.2.2⟩ hn; omega
    have hs := scan_stop (p := blB) (s := s) (i := s.size) (Nat.le_refl _) (.inl rfl)
    rw [at_plain hj a (by rw [hz]; intro x; have := x.1; omega), hz, at_none (Nat.le_refl _) (fun x => by have := x.1; omega), hs]
    have n1 := ns_not a.2.2
    show finE s s.size = _
    rw [fin_none (fun x => absurd x (Nat.lt_irrefl _)), fin_none (fun _ => ⟨n1.1, n1.2.1⟩)]
  · rw [at_none hj a]; rfl
theorem ot_next {s : ByteArray} {j e : Nat} (hj : j < s.size) (hk : okB (bt s j) = true) (h : atE s (scan blB s j) = some e) : otE s j = otE s e ∧ j < e ∧ e ≤ s.size := by
  have hj' : j ≤ s.size := by omega
  obtain ⟨i1, i2, i3, i4⟩ := scan_is blB s hj'
  unfold atE at h
  split at h
  · rename_i x
    have a : nmAt s j := by
      refine ⟨?_, by omega, x.2⟩
      by_cases q : j < scan blB s j
      · exact q
      · have e1 : scan blB s j = j := by omega
        have n1 := ns_not x.2
        rw [e1] at n1
        unfold okB at hk
        have := of_decide_eq_true hk
        have := bl_not n1.2.2.2
        omega
    obtain ⟨g0, g1, g2⟩ := nmE_gt hj' a
    have he := Option.some.inj h
    have hm : scan nmB s (scan blB s j) = nmE s j := rfl
    rw [hm] at he
    have hv := (scan_is blB s g2)
    cases hsv : svE s (nmE s j) with
    | some e2 =>
      rw [hsv] at he
      have he : e2 = e := he
      subst he
      have := svE_ge g2 hsv
      unfold svE at hsv
      split at hsv
      · rename_i y
        refine ⟨?_, by omega, by omega⟩
        unfold otE
        rw [at_val hj' a ⟨by omega, y.2⟩ hsv]
      · cases hsv
    | none =>
      rw [hsv] at he
      have he : nmE s j = e := he
      subst he
      refine ⟨?_, g1, g2⟩
      by_cases b : eqAt s (nmE s j)
      · have hb : blB (bt s (scan blB s (nmE s j))) = false := by rw [b.2]; decide
        have hw : vlE s (nmE s j) = none := by
          unfold svE at hsv
          by_cases q : scan blB s (nmE s j) + 1 < s.size
          · rw [if_pos ⟨q, b.2⟩] at hsv; exact hsv
          · unfold vlE
            have e1 : scan blB s (nmE s j) + 1 = s.size := by have := b.1; omega
            rw [e1, scan_stop (p := blB) (Nat.le_refl _) (.inl rfl)]
            unfold avE; rw [if_neg (Nat.lt_irrefl _)]
        unfold otE
        rw [at_bad hj' a b hw, at_none g2 (fun y => by have := y.2.2; rw [b.2] at this; exact absurd this (by decide))]
        show none = finE s (scan blB s (nmE s j))
        rw [fin_none (fun _ => by rw [b.2]; exact ⟨by decide, by decide⟩)]
      · unfold otE
        rw [at_plain hj' a b]
  · cases h
/-! A tail of a text. -/
theorem tail_sz {s : ByteArray} {i : Nat} : (s.extract i s.size).size = s.size - i := by rw [ByteArray.size_extract]; omega
theorem tail_b {s : ByteArray} {i k : Nat} (h : i + k < s.size) : bt (s.extract i s.size) k = bt s (i + k) := bt_extract s i s.size k h (Nat.le_refl _)
theorem scan_tail {p : Int → Bool} {s : ByteArray} {i k : Nat} (h : i + k ≤ s.size) : scan p (s.extract i s.size) k = scan p s (i + k) - i := by
  obtain ⟨h1, h2, h3, h4⟩ := scan_is p s h
  refine scan_eq (by omega) (by rw [tail_sz]; omega) (fun q a b => ?_) ?_
  · rw [tail_b (by omega)]; exact h3 _ (by omega) (by omega)
  · rcases h4 with h4 | h4
    · left; rw [tail_sz, h4]
    · by_cases e : scan p s (i + k) = s.size
      · left; rw [tail_sz, e]
      · right; rw [tail_b (by omega), show i + (scan p s (i + k) - i) = scan p s (i + k) by omega]; exact h4
theorem scan_tail' {p : Int → Bool} {s : ByteArray} {i k : Nat} (h : i + k ≤ s.size) : i + scan p (s.extract i s.size) k = scan p s (i + k) := by
  rw [scan_tail h]; have := scan_ge p s h; omega
theorem avE_tail {s : ByteArray} {i k : Nat} (h : i + k ≤ s.size) : (avE (s.extract i s.size) k).map (i + ·) = avE s (i + k) := by
  unfold avE
  rw [tail_sz]
  by_cases h1 : i + k < s.size
  · rw [if_pos (by omega), if_pos h1, tail_b h1]
    by_cases h2 : qtB (bt s (i + k)) = true
    · have e := scan_tail' (p := neB (bt s (i + k))) (s := s) (i := i) (k := k + 1) (by omega)
      rw [show i + (k + 1) = i + k + 1 by omega] at e
      rw [if_pos h2, if_pos h2]
      by_cases h3 : scan (neB (bt s (i + k))) s (i + k + 1) < s.size
      · rw [if_pos (by omega), if_pos h3, Option.map_some]; congr 1; omega
      · rw [if_neg (by omega), if_neg h3]; rfl
    · have e := scan_tail' (p := uvB) (s := s) (i := i) (k := k) h
      rw [if_neg h2, if_neg h2]
      by_cases h3 : i + k < scan uvB s (i + k)
      · rw [if_pos (by omega), if_pos h3, Option.map_some]; congr 1
      · rw [if_neg (by omega), if_neg h3]; rfl
  · rw [if_neg (by omega), if_neg h1]; rfl
theorem nmAt_tail {s : ByteArray} {i k : Nat} (h : i + k ≤ s.size) : nmAt (s.extract i s.size) k ↔ nmAt s (i + k) := by
  have e := scan_tail' (p := blB) h
  have h2 := (scan_is blB s h).2.1
  unfold nmAt
  rw [tail_sz]
  constructor
  · rintro ⟨a, b, c⟩
    rw [tail_b (by omega), e] at c
    exact ⟨by omega, by omega, c⟩
  · rintro ⟨a, b, c⟩
    exact ⟨by omega, by omega, by rw [tail_b (by omega), e]; exact c⟩
theorem nmE_tail {s : ByteArray} {i k : Nat} (h : i + k ≤ s.size) : i + nmE (s.extract i s.size) k = nmE s (i + k) := by
  have e := scan_tail' (p := blB) h
  have h2 := (scan_is blB s h).2.1
  unfold nmE
  rw [scan_tail' (by omega), e]
theorem eqAt_tail {s : ByteArray} {i k : Nat} (h : i + k ≤ s.size) : eqAt (s.extract i s.size) k ↔ eqAt s (i + k) := by
  have e := scan_tail' (p := blB) h
  unfold eqAt
  rw [tail_sz]
  constructor
  · rintro ⟨a, b⟩
    rw [tail_b (by omega), e] at b
    exact ⟨by omega, b⟩
  · rintro ⟨a, b⟩
    exact ⟨by omega, by rw [tail_b (by omega), e]; exact b⟩
theorem vlE_tail {s : ByteArray} {i k : Nat} (h : i + k ≤ s.size) (he : eqAt s (i + k)) : (vlE (s.extract i s.size) k).map (i + ·) = vlE s (i + k) := by
  have e := scan_tail' (p := blB) h
  have h1 := he.1
  unfold vlE
  have e2 := scan_tail' (p := blB) (s := s) (i := i) (k := scan blB (s.extract i s.size) k + 1) (by omega)
  have h2 := (scan_is blB s (i := scan blB s (i + k) + 1) (by omega)).2.1
  rw [show i + (scan blB (s.extract i s.size) k + 1) = scan blB s (i + k) + 1 by omega] at e2
  rw [avE_tail (by omega), e2]
theorem atS_tail {s : ByteArray} {i : Nat} : ∀ (n k : Nat), s.size - (i + k) ≤ n → i + k ≤ s.size → (atS (s.extract i s.size) k).map (i + ·) = atS s (i + k)
  | n, k, hn, h => by
    have hk : k ≤ (s.extract i s.size).size := by rw [tail_sz]; omega
    have e := scan_tail' (p := blB) h
    by_cases a : nmAt s (i + k)
    · have a' := (nmAt_tail h).2 a
      obtain ⟨_, g1, g2⟩ := nmE_gt h a
      have em := nmE_tail (i := i) (k := k) h
      match n with
      | 0 => omega
      | n + 1 =>
        by_cases b : eqAt s (nmE s (i + k))
        · have b' : eqAt (s.extract i s.size) (nmE (s.extract i s.size) k) := (eqAt_tail (s := s) (i := i) (k := nmE (s.extract i s.size) k) (by omega)).2 (by rw [em]; exact b)
          have ev := vlE_tail (s := s) (i := i) (k := nmE (s.extract i s.size) k) (by omega) (by rw [em]; exact b)
          rw [em] at ev
          cases hv : vlE (s.extract i s.size) (nmE (s.extract i s.size) k) with
          | none =>
            rw [hv] at ev
            rw [at_bad hk a' b' hv, at_bad h a b ev.symm]; rfl
          | some c =>
            rw [hv] at ev
            have hc : vlE s (nmE s (i + k)) = some (i + c) := ev.symm
            obtain ⟨g3, g4⟩ := vlE_gt g2 b hc
            rw [at_val hk a' b' hv, at_val h a b hc]
            exact atS_tail n c (by omega) g4
        · have b' : ¬ eqAt (s.extract i s.size) (nmE (s.extract i s.size) k) := fun x => b (by have := (eqAt_tail (s := s) (i := i) (k := nmE (s.extract i s.size) k) (by omega)).1 x; rw [em] at this; exact this)
          rw [at_plain hk a' b', at_plain h a b]
          have := atS_tail (s := s) (i := i) n (nmE (s.extract i s.size) k) (by omega) (by omega)
          rw [em] at this
          exact this
    · have a' : ¬ nmAt (s.extract i s.size) k := fun x => a ((nmAt_tail h).1 x)
      rw [at_none hk a', at_none h a, Option.map_some, e]
theorem finE_tail {s : ByteArray} {i k : Nat} (h : i + k ≤ s.size) : (finE (s.extract i s.size) k).map (i + ·) = finE s (i + k) := by
  have ef : i + finS (s.extract i s.size) k = finS s (i + k) := by
    unfold finS
    rw [tail_sz]
    by_cases a : i + k < s.size
    · rw [tail_b a]
      by_cases b : bt s (i + k) = 47
      · rw [if_pos ⟨by omega, b⟩, if_pos ⟨a, b⟩]; omega
      · rw [if_neg (fun x => b x.2), if_neg (fun x => b x.2)]
    · rw [if_neg (fun x => by have := x.1; omega), if_neg (fun x => a x.1)]
  unfold finE
  rw [tail_sz, ← ef]
  by_cases a : i + finS (s.extract i s.size) k < s.size
  · rw [tail_b a]
    by_cases b : bt s (i + finS (s.extract i s.size) k) = 62
    · rw [if_pos ⟨by omega, b⟩, if_pos ⟨a, b⟩, Option.map_some]; rfl
    · rw [if_neg (fun x => b x.2), if_neg (fun x => b x.2)]; rfl
  · rw [if_neg (fun x => by have := x.1; omega), if_neg (fun x => a x.1)]; rfl
theorem at_le {s : ByteArray} : ∀ (n j a : Nat), s.size - j ≤ n → j ≤ s.size → atS s j = some a → j ≤ a ∧ a ≤ s.size
  | n, j, a, hn, hj, h => by
    obtain ⟨s1, s2, _⟩ := scan_is blB s hj
    by_cases p : nmAt s j
    · obtain ⟨_, g1, g2⟩ := nmE_gt hj p
      match n with
      | 0 => omega
      | n + 1 =>
        by_cases b : eqAt s (nmE s j)
        · cases hv : vlE s (nmE s j) with
          | none => rw [at_bad hj p b hv] at h; cases h
          | some e =>
            obtain ⟨g3, g4⟩ := vlE_gt g2 b hv
            rw [at_val hj p b hv] at h
            have := at_le n e a (by omega) g4 h
            omega
        · rw [at_plain hj p b] at h
          have := at_le n _ a (by omega) g2 h
          omega
    · rw [at_none hj p] at h
      obtain rfl := Option.some.inj h
      omega
theorem otE_tail {s : ByteArray} {i k : Nat} (h : i + k ≤ s.size) : (otE (s.extract i s.size) k).map (i + ·) = otE s (i + k) := by
  have e := atS_tail (s := s) (i := i) _ k (Nat.le_refl _) h
  unfold otE
  cases ha : atS (s.extract i s.size) k with
  | none => rw [ha] at e; rw [← e]; rfl
  | some a =>
    rw [ha] at e
    have hl := at_le _ k a (Nat.le_refl _) (by rw [tail_sz]; omega) ha
    rw [tail_sz] at hl
    rw [← e]
    exact finE_tail (by omega)
theorem fin_le {s : ByteArray} {a e : Nat} (h : finE s a = some e) : a < e ∧ e ≤ s.size := by
  unfold finE at h
  split at h
  · rename_i x
    obtain rfl := Option.some.inj h
    have : a ≤ finS s a := by unfold finS; split <;> omega
    omega
  · cases h
end Go.Proofs.YtfmclgmcadiikaaGreat
