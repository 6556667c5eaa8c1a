/- The plain law of tags: the reference's length is the end that the package tells, less the place. No program in sight. -/
import Derived.Test.YtfmclgmcadiikaaGreatTagP
namespace Go.Proofs.YtfmclgmcadiikaaGreat
open Go.RowKit
theorem hit_bt {u a : ByteArray} (ha : hitB u a 0 = true) : a.size ≤ u.size ∧ ∀ k, k < a.size → bt u k = bt a k := by
  have hz : 0 + a.size ≤ u.size := by
    apply Nat.le_of_not_lt; intro x; rw [hit_out x] at ha; cases ha
  have e := (hit_in hz).symm.trans ha
  rw [Nat.zero_add] at e hz
  have e2 : u.extract 0 a.size = a := by
    have h' : (u.extract 0 a.size).toList = a.toList := by simpa using e
    rw [Lib.toList_data, Lib.toList_data] at h'
    exact ByteArray.ext (Array.toList_inj.1 h')
  refine ⟨hz, fun k hk => ?_⟩
  have := bt_extract u 0 a.size k (by omega) hz
  rw [e2, Nat.zero_add] at this
  exact this.symm
theorem hit_of {u a : ByteArray} (hz : a.size ≤ u.size) (h : ∀ k, k < a.size → bt u k = bt a k) : hitB u a 0 = true := by
  rw [hit_in (by omega), Nat.zero_add]
  have e3 : u.extract 0 a.size = a := by
    refine ext_bt (by rw [ByteArray.size_extract]; omega) fun k hk => ?_
    rw [ByteArray.size_extract] at hk
    rw [bt_extract u 0 a.size k (by omega) (by omega), Nat.zero_add, h k (by omega)]
  rw [e3]; simp
theorem hit_two {u : ByteArray} {c : UInt8} (hz : 2 ≤ u.size) (h0 : bt u 0 = 60) (h1 : bt u 1 = bt ⟨#[60, c]⟩ 1) : hitB u ⟨#[60, c]⟩ 0 = true :=
  hit_of hz fun k hk => by
    match k, hk with
    | 0, _ => rw [h0]; rfl
    | 1, _ => exact h1
theorem hit_not {u a : ByteArray} {k : Nat} (hk : k < a.size) (h : bt u k ≠ bt a k) : hitB u a 0 = false := by
  by_cases g : hitB u a 0 = true
  · exact absurd ((hit_bt g).2 k hk) h
  · simpa using g
theorem until_mk (s pre suf : ByteArray) (i : Nat) (hi : i ≤ s.size) (hs : 0 < suf.size) : untilN (s.extract i s.size) pre suf = ((mkE s pre suf i).map (· - i)).getD 0 := by
  by_cases hp : hitB s pre i = true
  · rw [until_tail s pre suf i hi hs hp]
    unfold mkE
    rw [if_pos hp]
    cases fst_ s suf (i + pre.size) <;> rfl
  · have ht := hit_tail s pre i 0 hi
    rw [Nat.add_zero] at ht
    unfold untilN mkE
    rw [ht, if_neg hp, if_neg hp]; rfl
theorem mk_le {s pre suf : ByteArray} {i E : Nat} (hs : 0 < suf.size) (h : mkE s pre suf i = some E) : i + pre.size < E ∧ E ≤ s.size := by
  unfold mkE at h
  split at h
  · rcases fst_is s suf (i + pre.size) with ⟨k, h1, h2, h3, _⟩ | ⟨h1, _⟩
    · rw [h1] at h
      have : k + suf.size = E := Option.some.inj h
      omega
    · rw [h1] at h; cases h
  · cases h
theorem tn_tail {s : ByteArray} {i k : Nat} (h : i + k ≤ s.size) : (tnE (s.extract i s.size) k).map (i + ·) = tnE s (i + k) := by
  unfold tnE
  rw [tail_sz]
  by_cases h1 : i + k < s.size
  · rw [tail_b h1]
    by_cases h2 : ltB (bt s (i + k)) = true
    · rw [if_pos ⟨by omega, h2⟩, if_pos ⟨h1, h2⟩, Option.map_some, scan_tail' h]
    · rw [if_neg (fun x => h2 x.2), if_neg (fun x => h2 x.2)]; rfl
  · rw [if_neg (fun x => by have := x.1; omega), if_neg (fun x => h1 x.1)]; rfl
theorem ct_tail {s : ByteArray} {i k : Nat} (h : i + k ≤ s.size) : (ctE (s.extract i s.size) k).map (i + ·) = ctE s (i + k) := by
  have e := scan_tail' (p := blB) h
  unfold ctE
  rw [tail_sz, ← e]
  by_cases h1 : i + scan blB (s.extract i s.size) k < s.size
  · rw [tail_b h1]
    by_cases h2 : bt s (i + scan blB (s.extract i s.size) k) = 62
    · rw [if_pos ⟨by omega, h2⟩, if_pos ⟨h1, h2⟩, Option.map_some]; rfl
    · rw [if_neg (fun x => h2 x.2), if_neg (fun x => h2 x.2)]; rfl
  · rw [if_neg (fun x => by have := x.1; omega), if_neg (fun x => h1 x.1)]; rfl
theorem bind_tail {s : ByteArray} {i k : Nat} {F : ByteArray → Nat → Option Nat} (hF : ∀ j, i + j ≤ s.size → (F (s.extract i s.size) j).map (i + ·) = F s (i + j)) (h : i + k ≤ s.size) :
    ((tnE (s.extract i s.size) k).bind (F (s.extract i s.size))).map (i + ·) = (tnE s (i + k)).bind (F s) := by
  have e := tn_tail (s := s) (i := i) h
  cases hT : tnE (s.extract i s.size) k with
  | none => rw [hT] at e; rw [← e]; rfl
  | some j =>
    have hj := (tn_le hT).2
    rw [tail_sz] at hj
    rw [hT] at e
    rw [← e]
    exact hF j (by omega)
theorem getD_tail {X Y : Option Nat} {i : Nat} (h : X.map (i + ·) = Y) : X.getD 0 = (Y.map (· - i)).getD 0 := by
  cases X with
  | none => rw [← h]; rfl
  | some x => rw [← h]; show x = i + x - i; omega
theorem ot_le {s : ByteArray} {j E : Nat} (hj : j ≤ s.size) (h : otE s j = some E) : j < E ∧ E ≤ s.size := by
  unfold otE at h
  cases ha : atS s j with
  | none => rw [ha] at h; cases h
  | some a =>
    rw [ha] at h
    have h : finE s a = some E := h
    have := at_le _ j a (Nat.le_refl _) hj ha
    have := fin_le h
    omega
theorem ct_le {s : ByteArray} {j E : Nat} (hj : j ≤ s.size) (h : ctE s j = some E) : j < E ∧ E ≤ s.size := by
  unfold ctE at h
  split at h
  · rename_i x
    obtain rfl := Option.some.inj h
    have := scan_ge blB s hj
    omega
  · cases h
def LenIs (s : ByteArray) (i : Nat) (Y : Option Nat) (n : Nat) : Prop := (Y = none ∧ n = 0) ∨ ∃ m, 0 < m ∧ i + m ≤ s.size ∧ Y = some (i + m) ∧ n = m
theorem len_is {s : ByteArray} {i : Nat} {Y : Option Nat} (h : ∀ E, Y = some E → i < E ∧ E ≤ s.size) : LenIs s i Y ((Y.map (· - i)).getD 0) := by
  cases Y with
  | none => exact .inl ⟨rfl, rfl⟩
  | some E =>
    obtain ⟨h1, h2⟩ := h E rfl
    refine .inr ⟨E - i, by omega, by omega, ?_, rfl⟩
    rw [show i + (E - i) = E by omega]
theorem rt_tg {s : ByteArray} {i : Nat} (hi : i < s.size) (h60 : bt s i = 60) : LenIs s i (tgE s i) (rtN (s.extract i s.size)) := by
  have hz := tail_sz (s := s) (i := i)
  have u0 : bt (s.extract i s.size) 0 = 60 := by rw [tail_b (by omega), Nat.add_zero]; exact h60
  have hot : otN (s.extract i s.size) = (((tnE s (i + 1)).bind (otE s)).map (· - i)).getD 0 := by
    unfold otN; rw [if_pos u0]; exact getD_tail (bind_tail (F := otE) (fun j h => otE_tail h) (by omega))
  have hpi : piN (s.extract i s.size) = ((mkE s piP piS i).map (· - i)).getD 0 := until_mk s piP piS i (by omega) (by decide)
  have hcd : cdN (s.extract i s.size) = ((mkE s cdP cdS i).map (· - i)).getD 0 := until_mk s cdP cdS i (by omega) (by decide)
  have hdl : dlN (s.extract i s.size) = ((mkE s dcP dcS i).map (· - i)).getD 0 := until_mk s dcP dcS i (by omega) (by decide)
  have ht : ∀ pre, hitB (s.extract i s.size) pre 0 = hitB s pre i := fun pre => by have := hit_tail s pre i 0 (by omega); rw [Nat.add_zero] at this; exact this
  have mk0 : ∀ pre suf, hitB (s.extract i s.size) pre 0 = false → mkE s pre suf i = none := fun pre suf h => by unfold mkE; rw [← ht, h]; rfl
  have cl0 : hitB (s.extract i s.size) clP 0 = false → clN (s.extract i s.size) = 0 := fun h => by unfold clN; rw [h]; rfl
  by_cases h3 : i + 3 ≤ s.size
  case neg =>
    have hT : tgE s i = none := by unfold tgE; rw [if_neg h3]
    have n1 : otN (s.extract i s.size) = 0 := by
      rw [hot]
      cases hj : tnE s (i + 1) with
      | none => rfl
      | some j =>
        have := tn_le hj
        show ((otE s j).map (· - i)).getD 0 = 0
        rw [ot_out (by omega) (.inl (by omega))]; rfl
    have n2 : clN (s.extract i s.size) = 0 := by
      unfold clN
      split
      · have : tnE (s.extract i s.size) 2 = none := by unfold tnE; rw [if_neg (fun x => by have := x.1; omega)]
        rw [this]; rfl
      · rfl
    have n3 : piN (s.extract i s.size) = 0 := by
      rw [hpi]
      cases hm : mkE s piP piS i with
      | none => rfl
      | some E => have := mk_le (by decide) hm; have e : piP.size = 2 := rfl; omega
    have n4 : cdN (s.extract i s.size) = 0 := by
      rw [hcd]
      cases hm : mkE s cdP cdS i with
      | none => rfl
      | some E => have := mk_le (by decide) hm; have e : cdP.size = 9 := rfl; omega
    have n5 : dlB (s.extract i s.size) = false := by unfold dlB; rw [decide_eq_false (by omega)]; rfl
    refine .inl ⟨hT, ?_⟩
    unfold rtN; rw [n1, n2, n3, n4, n5]; rfl
  have u1 : bt (s.extract i s.size) 1 = bt s (i + 1) := tail_b (by omega)
  have u2 : bt (s.extract i s.size) 2 = bt s (i + 2) := tail_b (by omega)
  have ot0 : ltB (bt s (i + 1)) = false → otN (s.extract i s.size) = 0 := fun h => by
    rw [hot]
    have : tnE s (i + 1) = none := by unfold tnE; rw [if_neg (fun x => by rw [h] at x; cases x.2)]
    rw [this]; rfl
  have e47 : bt clP 1 = 47 := by decide
  have e33 : bt dcP 1 = 33 := by decide
  have e63 : bt piP 1 = 63 := by decide
  have ecd : bt cdP 1 = 33 := by decide
  have ecd2 : bt cdP 2 = 91 := by decide
  have d2 : decide (2 < (s.extract i s.size).size) = true := decide_eq_true (by omega)
  have one : ∀ n : Nat, (if 0 < n then n else 0) = n := fun n => by split <;> omega
  by_cases x47 : bt s (i + 1) = 47
  · have hT : tgE s i = (tnE s (i + 2)).bind (ctE s) := by unfold tgE; rw [if_pos h3, if_pos x47]
    have n1 := ot0 (by rw [x47]; decide)
    have n3 : piN (s.extract i s.size) = 0 := by rw [hpi, mk0 _ _ (hit_not (k := 1) (by decide) (by rw [u1, x47, e63]; decide))]; rfl
    have n4 : cdN (s.extract i s.size) = 0 := by rw [hcd, mk0 _ _ (hit_not (k := 1) (by decide) (by rw [u1, x47, ecd]; decide))]; rfl
    have n5 : dlB (s.extract i s.size) = false := by unfold dlB; rw [hit_not (a := dcP) (k := 1) (by decide) (by rw [u1, x47, e33]; decide)]; simp
    have n2 : clN (s.extract i s.size) = (((tnE s (i + 2)).bind (ctE s)).map (· - i)).getD 0 := by
      unfold clN; rw [if_pos (hit_two (by omega) u0 (by rw [u1, x47]; rfl))]; exact getD_tail (bind_tail (F := ctE) (fun j h => ct_tail h) (by omega))
    have hr : rtN (s.extract i s.size) = clN (s.extract i s.size) := by unfold rtN; rw [n1, n3, n4, n5]; exact one _
    rw [hT, hr, n2]
    refine len_is fun E hE => ?_
    cases hj : tnE s (i + 2) with
    | none => rw [hj] at hE; cases hE
    | some j => rw [hj] at hE; have := tn_le hj; have := ct_le (by omega) (show ctE s j = some E from hE); omega
  have n2 := cl0 (hit_not (k := 1) (by decide) (by rw [u1, e47]; exact x47))
  by_cases x33 : bt s (i + 1) = 33
  · have n1 := ot0 (by rw [x33]; decide)
    have n3 : piN (s.extract i s.size) = 0 := by rw [hpi, mk0 _ _ (hit_not (k := 1) (by decide) (by rw [u1, x33, e63]; decide))]; rfl
    have hdc : hitB (s.extract i s.size) dcP 0 = true := hit_two (by omega) u0 (by rw [u1, x33]; rfl)
    by_cases y45 : bt s (i + 2) = 45
    · have hT : tgE s i = none := by unfold tgE; rw [if_pos h3, if_neg x47, if_pos x33, if_pos y45]
      have n4 : cdN (s.extract i s.size) = 0 := by rw [hcd, mk0 _ _ (hit_not (k := 2) (by decide) (by rw [u2, y45, ecd2]; decide))]; rfl
      have n5 : dlB (s.extract i s.size) = false := by unfold dlB; rw [u2, y45, show ltB 45 = false by decide]; simp
      refine .inl ⟨hT, ?_⟩
      unfold rtN; rw [n1, n2, n3, n4, n5]; rfl
    by_cases y91 : bt s (i + 2) = 91
    · have hT : tgE s i = mkE s cdP cdS i := by unfold tgE; rw [if_pos h3, if_neg x47, if_pos x33, if_neg y45, if_pos y91]
      have n5 : dlB (s.extract i s.size) = false := by unfold dlB; rw [u2, y91, show ltB 91 = false by decide]; simp
      have hr : rtN (s.extract i s.size) = cdN (s.extract i s.size) := by unfold rtN; rw [n1, n2, n3, n5]; exact one _
      rw [hT, hr, hcd]
      exact len_is fun E hE => by have := mk_le (by decide) hE; omega
    · have hT : tgE s i = dcE s i := by unfold tgE; rw [if_pos h3, if_neg x47, if_pos x33, if_neg y45, if_neg y91]
      have n4 : cdN (s.extract i s.size) = 0 := by rw [hcd, mk0 _ _ (hit_not (k := 2) (by decide) (by rw [u2, ecd2]; exact y91))]; rfl
      by_cases hl : ltB (bt s (i + 2)) = true
      · have n5 : dlB (s.extract i s.size) = true := by unfold dlB; rw [u2, hl, d2, hdc]; rfl
        have hr : rtN (s.extract i s.size) = dlN (s.extract i s.size) := by unfold rtN; rw [n1, n2, n3, n4, n5]; rfl
        have hD : dcE s i = mkE s dcP dcS i := by unfold dcE; rw [if_pos hl]
        rw [hT, hD, hr, hdl]
        exact len_is fun E hE => by have := mk_le (by decide) hE; omega
      · have hl' : ltB (bt s (i + 2)) = false := by simpa using hl
        have n5 : dlB (s.extract i s.size) = false := by unfold dlB; rw [u2, hl']; simp
        have hD : dcE s i = none := by unfold dcE; rw [if_neg hl]
        refine .inl ⟨hT.trans hD, ?_⟩
        unfold rtN; rw [n1, n2, n3, n4, n5]; rfl
  have n4 : cdN (s.extract i s.size) = 0 := by rw [hcd, mk0 _ _ (hit_not (k := 1) (by decide) (by rw [u1, ecd]; exact x33))]; rfl
  have n5 : dlB (s.extract i s.size) = false := by unfold dlB; rw [hit_not (a := dcP) (k := 1) (by decide) (by rw [u1, e33]; exact x33)]; simp
  by_cases x63 : bt s (i + 1) = 63
  · have n1 := ot0 (by rw [x63]; decide)
    have hT : tgE s i = mkE s piP piS i := by unfold tgE; rw [if_pos h3, if_neg x47, if_neg x33, if_pos x63]
    have hr : rtN (s.extract i s.size) = piN (s.extract i s.size) := by unfold rtN; rw [n1, n2, n4, n5]; exact one _
    rw [hT, hr, hpi]
    exact len_is fun E hE => by have := mk_le (by decide) hE; omega
  · have hT : tgE s i = (tnE s (i + 1)).bind (otE s) := by unfold tgE; rw [if_pos h3, if_neg x47, if_neg x33, if_neg x63]
    have n3 : piN (s.extract i s.size) = 0 := by rw [hpi, mk0 _ _ (hit_not (k := 1) (by decide) (by rw [u1, e63]; exact x63))]; rfl
    have hr : rtN (s.extract i s.size) = otN (s.extract i s.size) := by unfold rtN; rw [n2, n3, n4, n5]; exact one _
    rw [hT, hr, hot]
    refine len_is fun E hE => ?_
    cases hj : tnE s (i + 1) with
    | none => rw [hj] at hE; cases hE
    | some j => rw [hj] at hE; have := tn_le hj; have := ot_le (by omega) (show otE s j = some E from hE); omega
end Go.Proofs.YtfmclgmcadiikaaGreat
