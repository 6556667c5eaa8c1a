/- Contracts of seven, RunLength and longestSequence, and the plain law that joins the last two. Conditions: a text's size is at most 2^63 - 1; longestSequence is asked at texts of ASCII bytes. -/
import Derived.Test.YtgcncmaoinllfaaProg
import Derived.Test.YtgcncmaoinllfaaBase
namespace Go.Proofs.Ytgcncmaoinllfaa
open Go.RowKit
def sevenB (s : ByteArray) (most : Int) : Bool := allB s.size (fun k => decide (bt s k ≤ 127)) && decide ((s.size : Int) ≤ most)
set_option maxHeartbeats 400000 in
theorem seven_any (s : ByteArray) (most : Int) (w : World) (hs : s.size ≤ maxLen) : Calls Try.prog 17 #[.string s, .int .i64 most] w fun e w' => e = .returned (.bool (sevenB s most)) ∧ w = w' := by
  unfold maxLen at hs
  have hb := get_bt s
  go_enter Try.func17, Try.ntmps17
  go_wp2
  go_loop [8] (fun i => ∃ k : Nat, k ≤ s.size ∧ i = .int .i64 k ∧ Hid (∀ j, j < k → decide (bt s j ≤ 127) = true)) (fun i => s.size - (intOf i).toNat)
  case atStart => exact ⟨0, by omega, rfl, fun j h => absurd h (by omega)⟩
  case round =>
    obtain ⟨k, hk, rfl, hn⟩ := hrel
    by_cases hlt : k < s.size
    · by_cases hA : bt s k ≤ 127
      · have hend : ∀ j, j < k + 1 → decide (bt s j ≤ 127) = true := by
          intro j hj
          by_cases e : j = k
          · subst e; simpa using hA
          · exact hn j (by omega)
        have hE := hide hend
        clear hend
        go_wp2
        go_round
        case rel => exact ⟨k + 1, by omega, by go_num, hE⟩
        case measure => simp [intOf]; omega
      · have h1 : 127 < bt s k := by omega
        have hA2 := hide (allB_no (p := fun k => decide (bt s k ≤ 127)) hlt (by simpa using hA))
        clear hA
        go_wp2
        go_ret
        exact ⟨ret_bool (by unfold sevenB; rw [hA2.out]; rfl), rfl⟩
    · obtain rfl : k = s.size := by omega
      go_wp2
      go_ret
      exact ⟨ret_bool (by unfold sevenB; rw [allB_yes (fun j hj => hn j hj)]; simp), rfl⟩
def eqB (b c : Int) : Bool := decide (c = b)
def runL (s : ByteArray) (i : Nat) (b : Int) : Nat := scan (eqB b) s i - i
set_option maxHeartbeats 400000 in
theorem runLength_any (s : ByteArray) (i : Nat) (b : Int) (w : World) (hs : s.size ≤ maxLen) (hi : i ≤ s.size) : Calls Try.prog 19 #[.string s, .int .i64 i, .int .u8 b] w fun e w' => e = .returned (.int .i64 (runL s i b : Nat)) ∧ w = w' := by
  unfold maxLen at hs
  have hb := get_bt s
  go_enter Try.func19, Try.ntmps19
  go_wp2
  go_loop [7] (fun n' => ∃ n : Nat, i + n ≤ s.size ∧ n' = .int .i64 n ∧ Hid (∀ j, i ≤ j → j < i + n → eqB b (bt s j) = true)) (fun n => s.size - (intOf n).toNat)
  case atStart => exact ⟨0, by omega, rfl, fun j h h' => absurd h (by omega)⟩
  case round =>
    obtain ⟨n, hk, rfl, hn⟩ := hrel
    by_cases hlt : i + n < s.size
    · by_cases hA : bt s (i + n) = b
      · have hend : ∀ j, i ≤ j → j < i + (n + 1) → eqB b (bt s j) = true := by
          intro j h1 h2
          by_cases e : j = i + n
          · subst e; simpa [eqB] using hA
          · exact hn j h1 (by omega)
        have hE := hide hend
        have h1 : (bt s (i + n) == b) = true := by simp [hA]
        clear hend hA
        go_wp2
        go_round
        case rel => exact ⟨n + 1, by omega, by go_num, hE⟩
        case measure => simp [intOf]; omega
      · have h1 : (bt s (i + n) == b) = false := by simp [hA]
        have hA2 := hide (scan_eq (p := eqB b) (s := s) (i := i) (j := i + n) (by omega) (by omega) (fun j a b => hn j a b) (.inr (by simpa [eqB] using hA)))
        clear hA
        go_wp2
        go_ret
        exact ⟨ret_int (by unfold runL; rw [hA2.out]; omega), rfl⟩
    · have hA2 := hide (scan_eq (p := eqB b) (s := s) (i := i) (j := i + n) (by omega) (by omega) (fun j a b => hn j a b) (.inl (by omega)))
      go_wp2
      go_ret
      exact ⟨ret_int (by unfold runL; rw [hA2.out]; omega), rfl⟩

/-! The run that ends at a place, and the longest one so far. -/
def curR (s : ByteArray) (b : Int) : Nat → Nat
  | 0 => 0
  | k + 1 => if bt s k = b then curR s b k + 1 else 0
def maxR (s : ByteArray) (b : Int) : Nat → Nat
  | 0 => 0
  | k + 1 => if bt s k = b then maxR s b k else max (maxR s b k) (curR s b k)
theorem curR_le (s : ByteArray) (b : Int) : ∀ k, curR s b k ≤ k
  | 0 => Nat.le_refl _
  | k + 1 => by unfold curR; have := curR_le s b k; split <;> omega
theorem maxR_le (s : ByteArray) (b : Int) : ∀ k, maxR s b k ≤ k
  | 0 => Nat.le_refl _
  | k + 1 => by unfold maxR; have := maxR_le s b k; have := curR_le s b k; split <;> omega
theorem curR_all (s : ByteArray) (b : Int) : ∀ k j, k - curR s b k ≤ j → j < k → bt s j = b
  | 0, j, _, h => absurd h (by omega)
  | k + 1, j, h1, h2 => by
    unfold curR at h1
    split at h1
    · rename_i hb
      by_cases e : j = k
      · subst e; exact hb
      · exact curR_all s b k j (by omega) (by omega)
    · omega
theorem curR_ge (s : ByteArray) (b : Int) (i : Nat) : ∀ k, i ≤ k → (∀ j, i ≤ j → j < k → bt s j = b) → k - i ≤ curR s b k
  | 0, h, _ => by omega
  | k + 1, h, ha => by
    by_cases e : i = k + 1
    · omega
    · unfold curR
      rw [if_pos (ha k (by omega) (by omega))]
      have := curR_ge s b i k (by omega) (fun j h1 h2 => ha j h1 (by omega))
      omega
theorem curR_yes {s : ByteArray} {b : Int} {k : Nat} (h : bt s k = b) : curR s b (k + 1) = curR s b k + 1 := by rw [curR, if_pos h]
theorem curR_no {s : ByteArray} {b : Int} {k : Nat} (h : ¬ bt s k = b) : curR s b (k + 1) = 0 := by rw [curR, if_neg h]
theorem maxR_yes {s : ByteArray} {b : Int} {k : Nat} (h : bt s k = b) : maxR s b (k + 1) = maxR s b k := by rw [maxR, if_pos h]
theorem maxR_no {s : ByteArray} {b : Int} {k : Nat} (h : ¬ bt s k = b) : maxR s b (k + 1) = max (maxR s b k) (curR s b k) := by rw [maxR, if_neg h]
/-- What the code returns: no run that ends somewhere is longer, and one is as long. -/
theorem maxR_up (s : ByteArray) (b : Int) : ∀ k j, j ≤ k → curR s b j ≤ max (maxR s b k) (curR s b k)
  | 0, j, h => by obtain rfl : j = 0 := by omega
                  exact Nat.le_max_right _ _
  | k + 1, j, h => by
    by_cases e : j = k + 1
    · subst e; exact Nat.le_max_right _ _
    · have h1 := maxR_up s b k j (by omega)
      by_cases hb : bt s k = b
      · rw [maxR_yes hb, curR_yes hb]; omega
      · rw [maxR_no hb, curR_no hb]; omega
theorem maxR_has (s : ByteArray) (b : Int) : ∀ k, ∃ j, j ≤ k ∧ max (maxR s b k) (curR s b k) = curR s b j
  | 0 => ⟨0, Nat.le_refl _, rfl⟩
  | k + 1 => by
    obtain ⟨j, hj, he⟩ := maxR_has s b k
    by_cases hb : bt s k = b
    · by_cases hm : maxR s b k ≤ curR s b k + 1
      · exact ⟨k + 1, Nat.le_refl _, by rw [maxR_yes hb, curR_yes hb]; omega⟩
      · exact ⟨j, by omega, by rw [maxR_yes hb, curR_yes hb]; omega⟩
    · exact ⟨j, by omega, by rw [maxR_no hb, curR_no hb]; omega⟩
/-- The greatest of the runs that begin below a place. -/
def topR (s : ByteArray) (b : Int) : Nat → Nat
  | 0 => 0
  | k + 1 => max (topR s b k) (runL s k b)
theorem runL_le (s : ByteArray) (b : Int) {k : Nat} (hk : k ≤ s.size) : runL s k b ≤ s.size := by
  unfold runL; have := scan_le (eqB b) s hk; omega
theorem topR_le (s : ByteArray) (b : Int) : ∀ k, k ≤ s.size → topR s b k ≤ s.size
  | 0, _ => Nat.zero_le _
  | k + 1, h => by unfold topR; have := topR_le s b k (by omega); have := runL_le s b (k := k) (by omega); omega
theorem topR_up (s : ByteArray) (b : Int) : ∀ k j, j < k → runL s j b ≤ topR s b k
  | 0, j, h => absurd h (by omega)
  | k + 1, j, h => by
    unfold topR
    by_cases e : j = k
    · subst e; exact Nat.le_max_right _ _
    · have := topR_up s b k j (by omega); omega
theorem topR_has (s : ByteArray) (b : Int) : ∀ k, topR s b k = 0 ∨ ∃ j, j < k ∧ topR s b k = runL s j b
  | 0 => .inl rfl
  | k + 1 => by
    unfold topR
    rcases topR_has s b k with h | ⟨j, hj, he⟩
    · by_cases h0 : runL s k b = 0
      · left; omega
      · exact .inr ⟨k, by omega, by omega⟩
    · by_cases h0 : topR s b k ≤ runL s k b
      · exact .inr ⟨k, by omega, by omega⟩
      · exact .inr ⟨j, by omega, by omega⟩
/-- The plain law: both are the longest run. -/
theorem longest_eq (s : ByteArray) (b : Int) : max (maxR s b s.size) (curR s b s.size) = topR s b s.size := by
  apply Nat.le_antisymm
  · obtain ⟨k, hk, he⟩ := maxR_has s b s.size
    rw [he]
    by_cases h0 : curR s b k = 0
    · omega
    · have hc := curR_le s b k
      have hall := curR_all s b k
      have hup := topR_up s b s.size (k - curR s b k) (by omega)
      have hsc := scan_is (eqB b) s (i := k - curR s b k) (by omega)
      have : k ≤ scan (eqB b) s (k - curR s b k) := by
        apply Nat.le_of_not_lt
        intro hlt
        rcases hsc.2.2.2 with h | h
        · omega
        · rw [eqB, decide_eq_false_iff_not] at h
          exact h (hall _ hsc.1 hlt)
      unfold runL at hup
      omega
  · rcases topR_has s b s.size with h | ⟨j, hj, he⟩
    · omega
    · rw [he]
      have hsc := scan_is (eqB b) s (i := j) (by omega)
      have h1 := curR_ge s b j (scan (eqB b) s j) hsc.1 (fun k a c => by have := hsc.2.2.1 k a c; simpa [eqB] using this)
      have h2 := maxR_up s b s.size (scan (eqB b) s j) hsc.2.1
      unfold runL
      omega

def itPos (w : World) (g : Nat) : Nat := match w.heap[g]? with | some (.stringIter _ p) => p | _ => 0
theorem itPos_iter (w : World) (s : ByteArray) (k : Nat) : itPos (w.iter s k) w.heap.size = k := by
  unfold itPos; rw [World.iter_heap]
set_option maxHeartbeats 400000 in
theorem longestSequence_any (s : ByteArray) (b : Int) (w : World) (hs : s.size ≤ maxLen) (ha : ∀ k, k < s.size → bt s k ≤ 127) :
    Calls Try.prog 45 #[.string s, .int .u8 b] w fun e w' => e = .returned (.int .i64 (max (maxR s b s.size) (curR s b s.size) : Nat)) ∧ w.iter s s.size = w' := by
  unfold maxLen at hs
  have hb := get_bt s
  have HA := hide ha
  clear ha
  go_enter Try.func45, Try.ntmps45
  go_wp2
  go_loopw [5, 6] (fun m c wr => ∃ k : Nat, k ≤ s.size ∧ m = .int .i64 (maxR s b k : Nat) ∧ c = .int .i64 (curR s b k : Nat) ∧ wr = w.iter s k) (fun _ _ wr => s.size - itPos wr w.heap.size)
  case atStart => exact ⟨0, by omega, rfl, rfl, rfl⟩
  case round =>
    obtain ⟨k, hk, rfl, rfl, rfl⟩ := hrel
    have hm := maxR_le s b k
    have hc := curR_le s b k
    by_cases hlt : k < s.size
    · have hx := fun ty => run_next_ascii (P := Try.prog) w s k ty hlt (by have h1 := HA.out k hlt; have h2 := get_bt s k hlt; omega)
      have hi := itPos_iter w s k
      have hi1 := itPos_iter w s (k + 1)
      have HI := hide hi
      have HI1 := hide hi1
      clear hi hi1
      by_cases hA : bt s k = b
      · have h1 : (bt s k == b) = true := by simp [hA]
        have hM : Hid (maxR s b (k + 1) = maxR s b k) := maxR_yes hA
        have hC : Hid (curR s b (k + 1) = curR s b k + 1) := curR_yes hA
        clear hA
        go_wp2
        go_roundw
        case rel => exact ⟨k + 1, by omega, by rw [hM.out], by rw [hC.out]; go_num, rfl⟩
        case measure => rw [HI.out, HI1.out]; omega
      · have h1 : (bt s k == b) = false := by simp [hA]
        have hM : Hid (maxR s b (k + 1) = max (maxR s b k) (curR s b k)) := maxR_no hA
        have hC : Hid (curR s b (k + 1) = 0) := curR_no hA
        clear hA
        by_cases hg : maxR s b k < curR s b k
        all_goals
          go_wp2
          go_roundw
          case rel => exact ⟨k + 1, by omega, by rw [hM.out]; go_num, by rw [hC.out]; rfl, rfl⟩
          case measure => rw [HI.out, HI1.out]; omega
    · obtain rfl : k = s.size := by omega
      have hx := fun ty => run_next_end (P := Try.prog) w s s.size ty (by omega)
      by_cases hg : maxR s b s.size < curR s b s.size
      all_goals
        go_wp2
        go_ret
        exact ⟨ret_int (by omega), rfl⟩
end Go.Proofs.Ytgcncmaoinllfaa
