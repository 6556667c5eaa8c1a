/- Contracts of lined, inside, headed, zzIndex and the reference's until: where a text stands first in another one. Conditions: a text's size is at most 2^31 - 1. -/
import Derived.Test.YtfmclgmcadiikaaGreatProg
import Derived.Test.YtfmclgmcadiikaaGreatBase
namespace Go.Proofs.YtfmclgmcadiikaaGreat
open Go.RowKit
def linedB (s : ByteArray) (most : Int) : Bool := decide ((s.size : Int) ≤ most) && allB s.size (fun k => decide (bt s k = 10 ∨ (32 ≤ bt s k ∧ bt s k ≤ 126)))
set_option maxHeartbeats 400000 in
theorem lined_any (s : ByteArray) (most : Int) (w : World) (hs : s.size ≤ maxLen) : Calls Tryz.prog 8 #[.string s, .int .i64 most] w fun e w' => e = .returned (.bool (linedB s most)) ∧ w = w' := by
  unfold maxLen at hs
  have hb := get_bt s
  by_cases hm : (s.size : Int) ≤ most
  · go_enter Tryz.func8, Tryz.ntmps8
    go_wp2
    go_loop [12] (fun i => ∃ k : Nat, k ≤ s.size ∧ i = .int .i64 k ∧ Hid (∀ j, j < k → decide (bt s j = 10 ∨ (32 ≤ bt s j ∧ bt s j ≤ 126)) = true)) (fun i => s.size - (intOf i).toNat)
    case atStart => exact ⟨0, by omega, rfl, fun j h => absurd h (by omega)⟩
    case round =>
      obtain ⟨k, hk, rfl, hn⟩ := hrel
      by_cases hlt : k < s.size
      · by_cases hA : bt s k = 10 ∨ (32 ≤ bt s k ∧ bt s k ≤ 126)
        · have hend : Hid (∀ j, j < k + 1 → decide (bt s j = 10 ∨ (32 ≤ bt s j ∧ bt s j ≤ 126)) = true) := by
            intro j hj
            by_cases e : j = k
            · subst e; simpa using hA
            · exact hn j (by omega)
          rcases hA with h10 | ⟨h1, h2⟩
          · have c1 : (bt s k != 10) = false := by simp [h10]
            clear h10
            go_wp2
            go_round
            case rel => exact ⟨k + 1, by omega, by go_num, hend⟩
            case measure => simp [intOf]; omega
          · have c1 : (bt s k != 10) = true := by simp; omega
            go_wp2
            go_round
            case rel => exact ⟨k + 1, by omega, by go_num, hend⟩
            case measure => simp [intOf]; omega
        · have hA2 := hide (allB_no (p := fun k => decide (bt s k = 10 ∨ (32 ≤ bt s k ∧ bt s k ≤ 126))) hlt (by simpa using hA))
          have c1 : (bt s k != 10) = true := by simp; omega
          by_cases h1 : 32 ≤ bt s k
          · have h2 : 126 < bt s k := by omega
            clear hA
            go_wp2
            go_ret
            exact ⟨ret_bool (by unfold linedB; rw [hA2.out]; simp), rfl⟩
          · have h2 : bt s k < 32 := by omega
            clear hA h1
            go_wp2
            go_ret
            exact ⟨ret_bool (by unfold linedB; rw [hA2.out]; simp), rfl⟩
      · obtain rfl : k = s.size := by omega
        go_wp2
        go_ret
        exact ⟨ret_bool (by unfold linedB; rw [allB_yes (fun j hj => hn j hj)]; simp [hm]), rfl⟩
  · have hm' : most < (s.size : Int) := by omega
    clear hm
    go_enter Tryz.func8, Tryz.ntmps8
    go_wp2
    go_ret
    exact ⟨ret_bool (by unfold linedB; rw [decide_eq_false (by omega)]; rfl), rfl⟩
theorem lined_parts {s : ByteArray} {n : Int} (h : linedB s n = true) : (s.size : Int) ≤ n ∧ ∀ k, k < s.size → bt s k = 10 ∨ (32 ≤ bt s k ∧ bt s k ≤ 126) := by
  unfold linedB at h
  rw [Bool.and_eq_true] at h
  exact ⟨of_decide_eq_true h.1, fun k hk => by simpa using allB_all h.2 k hk⟩
def insideB (s : ByteArray) (i most : Int) : Bool := decide (0 ≤ i) && (decide (i ≤ (s.size : Int)) && linedB s most)
theorem inside_any (s : ByteArray) (i most : Int) (w : World) (hs : s.size ≤ maxLen) : Calls Tryz.prog 4 #[.string s, .int .i64 i, .int .i64 most] w fun e w' => e = .returned (.bool (insideB s i most)) ∧ w = w' := by
  have W0 := hide hs
  unfold maxLen at hs
  by_cases h0 : 0 ≤ i
  · by_cases h1 : i ≤ (s.size : Int)
    · go_enter Tryz.func4, Tryz.ntmps4
      go_wp2_with (go_at_call 8; refine (lined_any _ _ _ W0.out).mono ?_; rintro e w' ⟨rfl, rfl⟩)
      go_ret
      exact ⟨ret_bool (by unfold insideB; rw [decide_eq_true h0, decide_eq_true h1]; rfl), rfl⟩
    · have h1' : (s.size : Int) < i := by omega
      have H1 := hide (decide_eq_false h1)
      clear h1
      go_enter Tryz.func4, Tryz.ntmps4
      go_wp2
      go_ret
      exact ⟨ret_bool (by unfold insideB; rw [H1.out]; simp), rfl⟩
  · have h0' : i < 0 := by omega
    have H0 := hide (decide_eq_false h0)
    clear h0
    go_enter Tryz.func4, Tryz.ntmps4
    go_wp2
    go_ret
    exact ⟨ret_bool (by unfold insideB; rw [H0.out]; simp), rfl⟩
theorem inside_parts {s : ByteArray} {i n : Int} (h : insideB s i n = true) : 0 ≤ i ∧ i ≤ (s.size : Int) ∧ (s.size : Int) ≤ n ∧ ∀ k, k < s.size → bt s k = 10 ∨ (32 ≤ bt s k ∧ bt s k ≤ 126) := by
  unfold insideB at h
  rw [Bool.and_eq_true, Bool.and_eq_true] at h
  have := lined_parts h.2.2
  exact ⟨of_decide_eq_true h.1, of_decide_eq_true h.2.1, this.1, this.2⟩

/-! Where a text stands first in another one. -/
def hitB (u sub : ByteArray) (k : Nat) : Bool := decide (k + sub.size ≤ u.size) && ((u.extract k (k + sub.size)).toList == sub.toList)
def fstF (u sub : ByteArray) : Nat → Nat → Option Nat
  | 0, _ => none
  | n + 1, k => if hitB u sub k = true then some k else fstF u sub n (k + 1)
def fst_ (u sub : ByteArray) (a : Nat) : Option Nat := fstF u sub (u.size + 1 - a) a
theorem fstF_some {u sub : ByteArray} {k : Nat} (hk : hitB u sub k = true) : ∀ {n a : Nat}, a ≤ k → k < a + n → (∀ j, a ≤ j → j < k → hitB u sub j = false) → fstF u sub n a = some k
  | 0, a, h1, h2, _ => absurd h2 (by omega)
  | n + 1, a, h1, h2, hn => by
    by_cases e : a = k
    · subst e; rw [fstF, if_pos hk]
    · rw [fstF, if_neg (by rw [hn a (Nat.le_refl _) (by omega)]; simp)]
      exact fstF_some hk (by omega) (by omega) (fun j a b => hn j (by omega) b)
theorem fstF_none {u sub : ByteArray} : ∀ {n a : Nat}, (∀ j, a ≤ j → j < a + n → hitB u sub j = false) → fstF u sub n a = none
  | 0, a, _ => rfl
  | n + 1, a, hn => by
    rw [fstF, if_neg (by rw [hn a (Nat.le_refl _) (by omega)]; simp)]
    exact fstF_none (fun j a b => hn j (by omega) (by omega))
theorem hit_out {u sub : ByteArray} {k : Nat} (h : u.size < k + sub.size) : hitB u sub k = false := by
  unfold hitB; rw [decide_eq_false (by omega)]; rfl
theorem hit_in {u sub : ByteArray} {k : Nat} (h : k + sub.size ≤ u.size) : hitB u sub k = ((u.extract k (k + sub.size)).toList == sub.toList) := by
  unfold hitB; rw [decide_eq_true h]; rfl
theorem fst_some {u sub : ByteArray} {a k : Nat} (hak : a ≤ k) (hk : hitB u sub k = true) (hn : ∀ j, a ≤ j → j < k → hitB u sub j = false) : fst_ u sub a = some k := by
  refine fstF_some hk hak ?_ hn
  have : k + sub.size ≤ u.size := by
    apply Nat.le_of_not_lt
    intro h
    rw [hit_out h] at hk; cases hk
  omega
theorem fst_none {u sub : ByteArray} {a : Nat} (hn : ∀ j, a ≤ j → hitB u sub j = false) : fst_ u sub a = none := fstF_none (fun j h _ => hn j h)
theorem fstF_is {u sub : ByteArray} : ∀ {n a : Nat}, (∃ k, fstF u sub n a = some k ∧ a ≤ k ∧ hitB u sub k = true ∧ ∀ j, a ≤ j → j < k → hitB u sub j = false) ∨ (fstF u sub n a = none ∧ ∀ j, a ≤ j → j < a + n → hitB u sub j = false)
  | 0, a => .inr ⟨rfl, fun j h1 h2 => absurd h1 (by omega)⟩
  | n + 1, a => by
    by_cases h : hitB u sub a = true
    · exact .inl ⟨a, by rw [fstF, if_pos h], Nat.le_refl _, h, fun j h1 h2 => absurd h1 (by omega)⟩
    · have h' : hitB u sub a = false := by simpa using h
      rw [fstF, if_neg h]
      rcases fstF_is (u := u) (sub := sub) (n := n) (a := a + 1) with ⟨k, h1, h2, h3, h4⟩ | ⟨h1, h2⟩
      · refine .inl ⟨k, h1, by omega, h3, fun j a1 a2 => ?_⟩
        by_cases e : j = a
        · subst e; exact h'
        · exact h4 j (by omega) a2
      · refine .inr ⟨h1, fun j a1 a2 => ?_⟩
        by_cases e : j = a
        · subst e; exact h'
        · exact h2 j (by omega) (by omega)
/-- What fst_ gives. -/
theorem fst_is (u sub : ByteArray) (a : Nat) : (∃ k, fst_ u sub a = some k ∧ a ≤ k ∧ k + sub.size ≤ u.size ∧ hitB u sub k = true ∧ ∀ j, a ≤ j → j < k → hitB u sub j = false) ∨ (fst_ u sub a = none ∧ (0 < sub.size → ∀ j, a ≤ j → hitB u sub j = false)) := by
  rcases fstF_is (u := u) (sub := sub) (n := u.size + 1 - a) (a := a) with ⟨k, h1, h2, h3, h4⟩ | ⟨h1, h2⟩
  · refine .inl ⟨k, h1, h2, ?_, h3, h4⟩
    apply Nat.le_of_not_lt
    intro h
    rw [hit_out h] at h3; cases h3
  · refine .inr ⟨h1, fun hs j hj => ?_⟩
    rcases Nat.lt_or_ge j (a + (u.size + 1 - a)) with h | h
    · exact h2 j hj h
    · exact hit_out (by omega)
/-- A text's tail: hits move. -/
theorem hit_tail (s sub : ByteArray) (a k : Nat) (ha : a ≤ s.size) : hitB (s.extract a s.size) sub k = hitB s sub (a + k) := by
  unfold hitB
  rw [ByteArray.size_extract, ByteArray.extract_extract]
  by_cases h : k + sub.size ≤ s.size - a
  · rw [decide_eq_true (show k + sub.size ≤ min s.size s.size - a by omega), decide_eq_true (show a + k + sub.size ≤ s.size by omega), show min (a + (k + sub.size)) s.size = a + k + sub.size by omega]
  · rw [decide_eq_false (show ¬ k + sub.size ≤ min s.size s.size - a by omega), decide_eq_false (show ¬ a + k + sub.size ≤ s.size by omega)]; rfl
theorem fst_tail (s sub : ByteArray) (a b : Nat) (ha : a ≤ s.size) (hs : 0 < sub.size) : fst_ (s.extract a s.size) sub b = (fst_ s sub (a + b)).map (· - a) := by
  rcases fst_is s sub (a + b) with ⟨k, h1, h2, h3, h4, h5⟩ | ⟨h1, h2⟩
  · rw [h1]
    refine fst_some (k := k - a) (by omega) ?_ (fun j c d => ?_)
    · rw [hit_tail _ _ _ _ ha, show a + (k - a) = k by omega]; exact h4
    · rw [hit_tail _ _ _ _ ha]; exact h5 _ (by omega) (by omega)
  · rw [h1]
    exact fst_none (fun j c => by rw [hit_tail _ _ _ _ ha]; exact h2 hs _ (by omega))
def idxI (o : Option Nat) : Int := match o with | some k => (k : Int) | none => -1
set_option maxHeartbeats 400000 in
theorem zzIndex_any (u sub : ByteArray) (w : World) (hs : u.size ≤ 2147483647) (ht : sub.size ≤ 2147483647) (hp : 0 < sub.size) : Calls Tryz.prog 46 #[.string u, .string sub] w fun e w' => e = .returned (.int .i64 (idxI (fst_ u sub 0))) ∧ w = w' := by
  go_enter Tryz.func46, Tryz.ntmps46
  go_wp2
  go_loop [5] (fun i => ∃ k : Nat, k ≤ u.size ∧ i = .int .i64 k ∧ Hid (∀ j, j < k → hitB u sub j = false)) (fun i => u.size - (intOf i).toNat)
  case atStart => exact ⟨0, by omega, rfl, fun j h => absurd h (by omega)⟩
  case round =>
    obtain ⟨k, hk, rfl, hn⟩ := hrel
    by_cases hlt : k + sub.size ≤ u.size
    · have hltI : (k : Int) + (sub.size : Int) ≤ (u.size : Int) := by omega
      by_cases hB : ((u.extract k (k + sub.size)).toList == sub.toList) = true
      · have hF := hide (fst_some (a := 0) (Nat.zero_le _) ((hit_in hlt).trans hB) (fun j _ h => hn j h))
        go_wp2
        go_ret
        exact ⟨ret_int (by rw [hF.out]; rfl), rfl⟩
      · have hB : ((u.extract k (k + sub.size)).toList == sub.toList) = false := by simpa using hB
        have hend : Hid (∀ j, j < k + 1 → hitB u sub j = false) := by
          intro j hj
          by_cases e : j = k
          · subst e; exact (hit_in hlt).trans hB
          · exact hn j (by omega)
        go_wp2
        go_round
        case rel => exact ⟨k + 1, by omega, by go_num, hend⟩
        case measure => simp [intOf]; omega
    · have hF : Hid (fst_ u sub 0 = none) := fst_none (fun j _ => by
        by_cases h : j < k
        · exact hn j h
        · exact hit_out (by omega))
      have hltI : ¬ ((k : Int) + (sub.size : Int) ≤ (u.size : Int)) := by omega
      clear hlt
      go_wp2
      go_ret
      exact ⟨ret_int (by rw [hF.out]; rfl), rfl⟩
/-- The length up to the end of what was sought; 0 without. -/
def untilN (t pre suf : ByteArray) : Nat := if hitB t pre 0 = true then (match fst_ t suf pre.size with | some k => k + suf.size | none => 0) else 0
set_option maxHeartbeats 400000 in
theorem until_any (t pre suf : ByteArray) (w : World) (hs : t.size ≤ 2147483647) (ht : suf.size ≤ 100) (hp : 0 < suf.size) : Calls Tryz.prog 14 #[.string t, .string pre, .string suf] w fun e w' => e = .returned (.int .i64 (untilN t pre suf : Nat)) ∧ w = w' := by
  by_cases hz : pre.size ≤ t.size
  case neg =>
    have hN : Hid (untilN t pre suf = 0) := by unfold Hid untilN; rw [hit_out (by omega)]; rfl
    have hzI : (t.size : Int) < (pre.size : Int) := by omega
    clear hz
    go_enter Tryz.func14, Tryz.ntmps14
    go_wp2
    go_ret
    exact ⟨ret_int (by rw [hN.out]; rfl), rfl⟩
  have hzI : (pre.size : Int) ≤ (t.size : Int) := by omega
  have h0 := hit_in (u := t) (sub := pre) (k := 0) (by omega)
  rw [Nat.zero_add] at h0
  by_cases hB : ((t.extract 0 pre.size).toList == pre.toList) = true
  case neg =>
    have hB : ((t.extract 0 pre.size).toList == pre.toList) = false := by simpa using hB
    have hN : Hid (untilN t pre suf = 0) := by unfold Hid untilN; rw [h0, hB]; rfl
    have hB' : ((t.extract 0 pre.size).toList != pre.toList) = true := by simpa using hB
    clear h0
    go_enter Tryz.func14, Tryz.ntmps14
    go_wp2
    go_ret
    exact ⟨ret_int (by rw [hN.out]; rfl), rfl⟩
  have hB' : ((t.extract 0 pre.size).toList != pre.toList) = false := by simpa using hB
  have hN : Hid (untilN t pre suf = (match fst_ t suf pre.size with | some k => k + suf.size | none => 0)) := by unfold Hid untilN; rw [h0, hB]; rfl
  clear h0
  have d1 : decide (t.size < pre.size) = false := by simp; omega
  go_enter Tryz.func14, Tryz.ntmps14
  go_wp2
  go_loop [7] (fun i => ∃ k : Nat, pre.size ≤ k ∧ k ≤ t.size ∧ i = .int .i64 k ∧ Hid (∀ j, pre.size ≤ j → j < k → hitB t suf j = false)) (fun i => t.size - (intOf i).toNat)
  case atStart => exact ⟨pre.size, by omega, by omega, rfl, fun j h h' => absurd h (by omega)⟩
  case round =>
    obtain ⟨k, hpk, hk, rfl, hn⟩ := hrel
    by_cases hlt : k + suf.size ≤ t.size
    · have hltI : (k : Int) + (suf.size : Int) ≤ (t.size : Int) := by omega
      by_cases hB2 : ((t.extract k (k + suf.size)).toList == suf.toList) = true
      · have hF := hide (fst_some hpk ((hit_in hlt).trans hB2) (fun j a h => hn j a h))
        go_wp2
        go_ret
        exact ⟨ret_int (by rw [hN.out, hF.out]; rfl), rfl⟩
      · have hB2 : ((t.extract k (k + suf.size)).toList == suf.toList) = false := by simpa using hB2
        have hend : Hid (∀ j, pre.size ≤ j → j < k + 1 → hitB t suf j = false) := by
          intro j h hj
          by_cases e : j = k
          · subst e; exact (hit_in hlt).trans hB2
          · exact hn j h (by omega)
        go_wp2
        go_round
        case rel => exact ⟨k + 1, by omega, by omega, by go_num, hend⟩
        case measure => simp [intOf]; omega
    · have hF : Hid (fst_ t suf pre.size = none) := fst_none (fun j a => by
        by_cases h : j < k
        · exact hn j a h
        · exact hit_out (by omega))
      have hltI : ¬ ((k : Int) + (suf.size : Int) ≤ (t.size : Int)) := by omega
      clear hlt
      go_wp2
      go_ret
      exact ⟨ret_int (by rw [hN.out, hF.out]; rfl), rfl⟩
end Go.Proofs.YtfmclgmcadiikaaGreat
