/- LineTrimSpace against the reference's Indent, Skip and Rest: the plain model of columns, and the contracts. Conditions: texts of at most 200 bytes, at most 100 columns. -/
import Derived.Test.YtgcncmaoinllfaaProg
import Derived.Test.YtgcncmaoinllfaaBase
import Derived.Test.YtgcncmaoinllfaaTexts
import Derived.Deep.QuietTactic
namespace Go.Proofs.Ytgcncmaoinllfaa
open Go.RowKit
/-- Behind m columns of white space: how many of a tab's columns are left, and the place. -/
def colS (s : ByteArray) : Nat → Option (Nat × Nat)
  | 0 => some (0, 0)
  | m + 1 => match colS s m with
    | none => none
    | some (sp, i) => if 0 < sp then some (sp - 1, i) else if i < s.size ∧ bt s i = 9 then some (3 - m % 4, i + 1) else if i < s.size ∧ bt s i = 32 then some (0, i + 1) else none
theorem col_none {s : ByteArray} {m : Nat} (h : colS s m = none) : ∀ j, colS s (m + j) = none
  | 0 => h
  | j + 1 => by
    have := col_none h j
    show (match colS s (m + j) with | none => none | some (sp, i) => _) = none
    rw [this]
theorem col_down {s : ByteArray} {m sp i : Nat} (h : colS s m = some (sp + 1, i)) : colS s (m + 1) = some (sp, i) := by
  rw [colS, h]; simp
theorem col_downs {s : ByteArray} {m sp i : Nat} (h : colS s m = some (sp, i)) : ∀ j, j ≤ sp → colS s (m + j) = some (sp - j, i)
  | 0, _ => h
  | j + 1, hj => by
    have h1 := col_downs h j (by omega)
    rw [show sp - j = (sp - (j + 1)) + 1 by omega] at h1
    exact col_down h1
theorem col_tab {s : ByteArray} {m i : Nat} (h : colS s m = some (0, i)) (hi : i < s.size) (hb : bt s i = 9) : colS s (m + 1) = some (3 - m % 4, i + 1) := by
  rw [colS, h]; simp [hi, hb]
theorem col_space {s : ByteArray} {m i : Nat} (h : colS s m = some (0, i)) (hi : i < s.size) (hb : bt s i = 32) : colS s (m + 1) = some (0, i + 1) := by
  rw [colS, h]; simp [hi, hb]
theorem col_end {s : ByteArray} {m i : Nat} (h : colS s m = some (0, i)) (hb : ¬ (i < s.size ∧ (bt s i = 9 ∨ bt s i = 32))) : colS s (m + 1) = none := by
  rw [colS, h]
  simp only [Nat.lt_irrefl, if_false]
  rw [if_neg (fun x => hb ⟨x.1, .inl x.2⟩), if_neg (fun x => hb ⟨x.1, .inr x.2⟩)]
theorem col_le {s : ByteArray} : ∀ {m sp i : Nat}, colS s m = some (sp, i) → i ≤ s.size ∧ i ≤ m ∧ sp ≤ 3
  | 0, sp, i, h => by
    simp [colS] at h; omega
  | m + 1, sp, i, h => by
    rw [colS] at h
    cases hm : colS s m with
    | none => rw [hm] at h; cases h
    | some x =>
      obtain ⟨sp', i'⟩ := x
      have := col_le hm
      rw [hm] at h
      simp only at h
      split at h
      · simp at h; omega
      · split at h
        · simp at h; omega
        · split at h
          · simp at h; omega
          · cases h
/-- Up to 'most' columns were taken: m of them; sp, i as colS has them. -/
def Fin_ (s : ByteArray) (most m sp i : Nat) : Prop := colS s m = some (sp, i) ∧ m ≤ most ∧ (m = most ∨ colS s (m + 1) = none)
theorem fin_ex (s : ByteArray) : ∀ most, ∃ m sp i, Fin_ s most m sp i
  | 0 => ⟨0, 0, 0, rfl, Nat.le_refl _, .inl rfl⟩
  | n + 1 => by
    obtain ⟨m, sp, i, h1, h2, h3⟩ := fin_ex s n
    rcases h3 with h3 | h3
    · subst h3
      cases h : colS s (m + 1) with
      | none => exact ⟨m, sp, i, h1, by omega, .inr h⟩
      | some x => exact ⟨m + 1, x.1, x.2, h, Nat.le_refl _, .inl rfl⟩
    · exact ⟨m, sp, i, h1, by omega, .inr h3⟩
theorem fin_le {s : ByteArray} {most m sp i k : Nat} {x : Nat × Nat} (h : Fin_ s most m sp i) (hk : colS s k = some x) (hm : k ≤ most) : k ≤ m := by
  apply Nat.le_of_not_lt
  intro hlt
  rcases h.2.2 with h3 | h3
  · omega
  · have := col_none h3 (k - (m + 1))
    rw [show m + 1 + (k - (m + 1)) = k by omega, hk] at this
    cases this
theorem fin_uniq {s : ByteArray} {most m sp i m' sp' i' : Nat} (h : Fin_ s most m sp i) (h' : Fin_ s most m' sp' i') : m = m' ∧ sp = sp' ∧ i = i' := by
  have h1 := fin_le h h'.1 h'.2.1
  have h2 := fin_le h' h.1 h.2.1
  obtain rfl : m = m' := by omega
  have h3 := h.1.symm.trans h'.1
  simp at h3
  exact ⟨rfl, h3.1, h3.2⟩
def spc : Nat → ByteArray
  | 0 => ⟨#[]⟩
  | 1 => ⟨#[32]⟩
  | 2 => ⟨#[32, 32]⟩
  | _ => ⟨#[32, 32, 32]⟩
def restS (sp : Nat) (s : ByteArray) (i : Nat) : ByteArray := spc sp ++ s.extract i s.size
theorem restS_zero (s : ByteArray) : restS 0 s 0 = s := by
  unfold restS spc
  apply ByteArray.ext; simp
theorem spc0 (s : ByteArray) (i : Nat) : s.extract i s.size = restS 0 s i := by
  unfold restS spc
  apply ByteArray.ext; simp
set_option maxHeartbeats 1000000 in
theorem lineString_any (g sp i : Nat) (s : ByteArray) (w : World) (hs : s.size ≤ 200) (hi : i ≤ s.size) (hsp : sp ≤ 3)
    (h0 : w.cell? ⟨g, 0, none⟩ = some (.int .i64 sp)) (h1 : w.cell? ⟨g, 1, none⟩ = some (.int .i64 i)) (h3 : w.cell? ⟨g, 3, none⟩ = some (.string s)) :
    Calls Try.prog 49 #[.pointer (some ⟨g, 0, none⟩)] w fun e w' => e = .returned (.string (restS sp s i)) ∧ Below w.heap.size w w' := by
  have hiI : (i : Int) ≤ (s.size : Int) := by omega
  have hcase : sp = 0 ∨ sp = 1 ∨ sp = 2 ∨ sp = 3 := by omega
  rcases hcase with rfl | rfl | rfl | rfl
  · have hS := hide (spc0 s i)
    go_enter Try.func49, Try.ntmps49
    go_wp2
    go_quiet (fail)
    go_wp2
    go_ret
    exact ⟨ret_str hS.out, below_drewN (Below.refl _ _) _⟩
  all_goals
    go_enter Try.func49, Try.ntmps49
    go_wp2
    go_quiet (fail)
    go_wp2
    go_ret
    exact ⟨rfl, below_drewN (Below.refl _ _) _⟩
theorem ofInt_i64 (a : Nat) (ha : a < 9223372036854775808) : (BitVec.ofInt 64 (a : Int)).toNat = a := by
  rw [BitVec.ofInt_natCast, BitVec.toNat_ofNat]; exact Nat.mod_eq_of_lt (by omega)
theorem i64_and_nat (a b : Nat) (ha : a < 9223372036854775808) (hb : b < 9223372036854775808) : bits .and .i64 (a : Int) (b : Int) = ((a &&& b : Nat) : Int) := by
  have hx : a &&& b < 2 ^ 63 := Nat.and_lt_two_pow _ (by omega)
  show IntKind.i64.wrap ((BitVec.ofInt 64 (a : Int) &&& BitVec.ofInt 64 (b : Int)).toNat : Int) = _
  rw [BitVec.toNat_and, ofInt_i64 a ha, ofInt_i64 b hb, IntKind.wrap_i64]
  omega
theorem and3 {i t : Nat} (h : t ≤ i) (hi : i ≤ 1000) : bits .and .i64 ((i : Int) - (t : Int)) 3 = (((i - t) % 4 : Nat) : Int) := by
  rw [← Int.ofNat_sub h]
  have := i64_and_nat (i - t) 3 (by omega) (by omega)
  rw [show ((3 : Nat) : Int) = 3 from rfl] at this
  rw [this, Nat.and_two_pow_sub_one_eq_mod (i - t) 2]
set_option maxHeartbeats 2000000 in
theorem zzLine_any (s : ByteArray) (least most m sp i : Nat) (w : World) (hs : s.size ≤ 200) (hm : most ≤ 100) (hl : least ≤ most) (hF : Fin_ s most m sp i) :
    Calls Try.prog 38 #[.string s, .int .i64 least, .int .i64 most, .bool false] w fun e w' => e = .returned (.tuple #[.string (if least ≤ m then restS sp s i else s), .bool (decide (least ≤ m))]) ∧ Below w.heap.size w w' := by
  have hb := get_bt s
  have HF := hide hF
  have hmm := hF.2.1
  clear hF
  go_enter Try.func38, Try.ntmps38
  go_wp2
  go_loopw [10] (fun n wr => ∃ k sp' i' tab : Nat, k ≤ m ∧ tab ≤ i' ∧ n = .int .i64 k ∧ Hid (colS s k = some (sp', i')) ∧ Hid ((k + sp') % 4 = (i' - tab) % 4) ∧ wr = (w.alloc (.cells #[.int .i64 0, .int .i64 0, .int .i64 0, .string s, .int .u8 0] 53)).alloc (.cells #[.int .i64 sp', .int .i64 i', .int .i64 tab, .string s, .int .u8 0] 53)) (fun n _ => most - (intOf n).toNat)
  case atStart => exact ⟨0, 0, 0, 0, by omega, by omega, rfl, rfl, rfl, rfl⟩
  case round =>
    obtain ⟨k, sp', i', tab, hk, hti, rfl, hc, hmod, rfl⟩ := hrel
    have hle := col_le hc.out
    obtain ⟨hi1, hi2, hi3⟩ := hle
    by_cases hkm : k < m
    · have hkm' : (k : Int) < (most : Int) := by omega
      by_cases hsp : 0 < sp'
      · go_wp2
        go_roundw
        case rel => exact ⟨k + 1, sp' - 1, i', tab, by omega, by omega, by go_num, col_down (by rw [show sp' - 1 + 1 = sp' by omega]; exact hc.out), (by have := hmod.out; unfold Hid; omega), (by congr; omega)⟩
        case measure => simp [intOf]; omega
      · obtain rfl : sp' = 0 := by omega
        have hne : colS s (k + 1) ≠ none := by
          intro h
          have h1 := col_none h (m - (k + 1))
          rw [show k + 1 + (m - (k + 1)) = m by omega, HF.out.1] at h1
          cases h1
        by_cases hws : i' < s.size ∧ (bt s i' = 9 ∨ bt s i' = 32)
        · obtain ⟨hlt, hws⟩ := hws
          rcases hws with h9 | h32
          · have c1 : (bt s i' == 9) = true := by simp [h9]
            have hn := hide (col_tab hc.out hlt h9)
            have hand := and3 hti (by omega)
            have hx3 : (i' - tab) % 4 ≤ 3 := by omega
            have hx : Hid ((i' - tab) % 4 = k % 4) := by have := hmod.out; unfold Hid; omega
            generalize (i' - tab) % 4 = x at hand hx3 hx
            clear hne h9 hsp
            go_wp2
            go_roundw
            case rel => exact ⟨k + 1, 3 - k % 4, i' + 1, i' + 1, by omega, by omega, by go_num, hn, (by unfold Hid; omega), by have := hx.out; congr 6 <;> omega⟩
            case measure => simp [intOf]; omega
          · have c1 : (bt s i' == 9) = false := by simp [h32]
            have c2 : (bt s i' == 32) = true := by simp [h32]
            have hn := hide (col_space hc.out hlt h32)
            clear hne h32 hsp
            go_wp2
            go_roundw
            case rel => exact ⟨k + 1, 0, i' + 1, tab, by omega, by omega, by go_num, hn, (by have := hmod.out; unfold Hid; omega), by congr⟩
            case measure => simp [intOf]; omega
        · exact absurd (col_end hc.out hws) hne
    · obtain rfl : k = m := by omega
      have hF := HF.out
      have hee := hc.out.symm.trans hF.1
      simp only [Option.some.injEq, Prod.mk.injEq] at hee
      obtain ⟨e1, e2⟩ := hee
      obtain rfl : sp' = sp := e1
      obtain rfl : i' = i := e2
      rcases Nat.lt_or_ge k most with hlt | hge
      · have hend : colS s (k + 1) = none := by
          rcases hF.2.2 with h | h
          · omega
          · exact h
        have hsp : sp' = 0 := by
          apply Nat.eq_zero_of_not_pos
          intro hp
          have := col_down (s := s) (m := k) (sp := sp' - 1) (i := i') (by rw [show sp' - 1 + 1 = sp' by omega]; exact hF.1)
          rw [hend] at this; cases this
        subst hsp
        have hnw : ¬ (i' < s.size ∧ (bt s i' = 9 ∨ bt s i' = 32)) := by
          rintro ⟨h1, h2⟩
          rcases h2 with h2 | h2
          · have := col_tab hF.1 h1 h2; rw [hend] at this; cases this
          · have := col_space hF.1 h1 h2; rw [hend] at this; cases this
        clear hF hend HF
        have hltI : (k : Int) < (most : Int) := by omega
        by_cases hlm : least ≤ k
        · have hlI : (least : Int) ≤ (k : Int) := by omega
          by_cases hi : i' < s.size
          · have c1 : (bt s i' == 9) = false := by simp; omega
            have c2 : (bt s i' == 32) = false := by simp; omega
            clear hnw
            go_wp2_with (go_at_call 49; refine (lineString_any w.heap.size 0 i' s _ hs hi1 (by omega) (by simp) (by simp) (by simp)).mono ?_; rintro e w1 ⟨rfl, hb1⟩)
            go_ret2
            exact ⟨rfl, (((Below.refl _ _).alloc (Nat.le_refl _) _).alloc (by simp) _).trans (hb1.mono (by simp; omega))⟩
          · have hi : ¬ ((i' : Int) < (s.size : Int)) := by omega
            clear hnw
            go_wp2_with (go_at_call 49; refine (lineString_any w.heap.size 0 i' s _ hs hi1 (by omega) (by simp) (by simp) (by simp)).mono ?_; rintro e w1 ⟨rfl, hb1⟩)
            go_ret2
            exact ⟨rfl, (((Below.refl _ _).alloc (Nat.le_refl _) _).alloc (by simp) _).trans (hb1.mono (by simp; omega))⟩
        · have hlI : ¬ ((least : Int) ≤ (k : Int)) := by omega
          by_cases hi : i' < s.size
          · have c1 : (bt s i' == 9) = false := by simp; omega
            have c2 : (bt s i' == 32) = false := by simp; omega
            clear hnw
            go_wp2_with (go_at_call 49; refine (lineString_any w.heap.size 0 0 s _ hs (Nat.zero_le _) (by omega) (by simp) (by simp) (by simp)).mono ?_; rintro e w1 ⟨rfl, hb1⟩)
            go_ret2
            exact ⟨congrArg (fun x => Ending.returned (.tuple #[.string x, .bool false])) (restS_zero s), (((Below.refl _ _).alloc (Nat.le_refl _) _).alloc (by simp) _).trans (hb1.mono (by simp; omega))⟩
          · have hi : ¬ ((i' : Int) < (s.size : Int)) := by omega
            clear hnw
            go_wp2_with (go_at_call 49; refine (lineString_any w.heap.size 0 0 s _ hs (Nat.zero_le _) (by omega) (by simp) (by simp) (by simp)).mono ?_; rintro e w1 ⟨rfl, hb1⟩)
            go_ret2
            exact ⟨congrArg (fun x => Ending.returned (.tuple #[.string x, .bool false])) (restS_zero s), (((Below.refl _ _).alloc (Nat.le_refl _) _).alloc (by simp) _).trans (hb1.mono (by simp; omega))⟩
      · have hkI : ¬ ((k : Int) < (most : Int)) := by omega
        have hlm : least ≤ k := by omega
        have hL := hide hlm
        clear hF HF
        go_wp2_with (go_at_call 49; refine (lineString_any w.heap.size sp' i' s _ hs hi1 hi3 (by simp) (by simp) (by simp)).mono ?_; rintro e w1 ⟨rfl, hb1⟩)
        go_ret2
        exact ⟨rfl, (((Below.refl _ _).alloc (Nat.le_refl _) _).alloc (by simp) _).trans (hb1.mono (by simp; omega))⟩
end Go.Proofs.Ytgcncmaoinllfaa
