/- The contract of tableUnescape: it returns the text without each backslash that stands ahead of a pipe. Conditions: a text's size is at most 2^31 - 1. -/
import Derived.Test.YtgcncmaoinllfaaProg
import Derived.Test.YtgcncmaoinllfaaBase
import Derived.Test.YtgcncmaoinllfaaTexts
namespace Go.Proofs.Ytgcncmaoinllfaa
open Go.RowKit
theorem info_u8t : (Try.prog.info? 5).map (fun i => (i.zero, i.size, i.bytes)) = some (some (.int .u8 0), 1, 1) := by kernel_rfl
/-- Is a byte left out? -/
def goneB (s : ByteArray) (i : Nat) : Bool := decide (bt s i = 92 ∧ i + 1 < s.size ∧ bt s (i + 1) = 124)
def unT (s : ByteArray) : Nat → List Int
  | 0 => []
  | k + 1 => if goneB s k = true then unT s k else unT s k ++ [bt s k]
theorem unT_yes {s : ByteArray} {k : Nat} (h : goneB s k = true) : unT s (k + 1) = unT s k := by rw [unT, if_pos h]
theorem unT_no {s : ByteArray} {k : Nat} (h : goneB s k = false) : unT s (k + 1) = unT s k ++ [bt s k] := by rw [unT, if_neg (by simp [h])]
theorem unT_len (s : ByteArray) : ∀ k, (unT s k).length ≤ k
  | 0 => Nat.le_refl _
  | k + 1 => by
    have := unT_len s k
    unfold unT
    split
    · omega
    · simp; omega
theorem own_below {w w' : World} {B base : Nat} {e : TypeId} {size n : Nat} {v : Value} {xs : List Value} (h : w.ownsRow base e size v n xs) (hb : Below B w w') (hlt : ∀ g, v.ownBlock = some g → g < B) : w'.ownsRow base e size v n xs := by
  obtain ⟨h1, h2⟩ := h
  refine ⟨h1, ?_⟩
  rcases h2 with h2 | ⟨g, cap, cur, hv, hg, hh, r⟩
  · exact .inl h2
  · exact .inr ⟨g, cap, cur, hv, hg, by rw [hb.block g (hlt g (by rw [hv]; rfl))]; exact hh, r⟩
set_option maxHeartbeats 1000000 in
theorem tableUnescape_any (s : ByteArray) (w : World) (hs : s.size ≤ 2147483647) : Calls Try.prog 39 #[.string s] w fun e w' => e = .returned (.string (bytesOf (unT s s.size))) ∧ Below w.heap.size w w' := by
  obtain ⟨i0, hi0, hz0, hz1, hz2⟩ := info_parts info_u8t
  have hb := get_bt s
  go_enter Try.func39, Try.ntmps39
  go_wp2_with (at_make; refine wpList_make_own _ rfl _ _ 23 rfl w.heap.size 5 i0 (.int .u8 0) 1 Try.underlying23 hi0 hz0 hz1 .i64 .i64 _ s.size rfl rfl rfl (by rw [hz2]; omega) (by unfold maxLen; omega) (Nat.le_refl _) ?_; intro w1 hown1 hg1)
  have hb1 : Below w.heap.size w w1 := (Below.refl _ _).grown hg1 (Nat.le_refl _) (fun k hk => by cases hk)
  go_loopw [3, 4] (fun v i wr => ∃ k : Nat, k ≤ s.size ∧ i = .int .i64 k ∧ wr.ownsRow w.heap.size 5 1 v (unT s k).length ((unT s k).map (Value.int .u8)) ∧ Below w.heap.size w wr) (fun _ i _ => s.size - (intOf i).toNat)
  case atStart => exact ⟨0, by omega, rfl, hown1, hb1⟩
  case round =>
    clear hb1 hown1 hg1
    obtain ⟨k, hk, rfl, hown, hbe⟩ := hrel
    have hlen := unT_len s k
    by_cases hlt : k < s.size
    · by_cases h1 : bt s k = 92
      · have hc : (bt s k == 92) = true := by simp [h1]
        by_cases h2 : k + 1 < s.size
        · have hc2 : ((k : Int) + 1 < (s.size : Int)) := by omega
          by_cases h3 : bt s (k + 1) = 124
          · have hno : Hid (unT s (k + 2) = unT s k ++ [124]) := by
              unfold Hid
              rw [unT_no (k := k + 1) (by simp [goneB, h3]), unT_yes (k := k) (by simp [goneB, h1, h2, h3]), h3]
            have hc3 : (bt s (k + 1) == 124) = true := by simp [h3]
            clear h1 h3
            go_wp2_with (at_builtin; refine wpList_append_own _ rfl (.tmp 36) (.tmp 38) 23 rfl w.heap.size 5 i0 (.int .u8 0) 1 1 Try.underlying23 hi0 hz0 hz1 hz2 rfl (by decide) _ (unT s k).length _ rfl (hown.alloc _) ⟨wr.heap.size, 0, none⟩ 1 1 [.int .u8 124] rfl rfl (cellOne _ _ _) (by simp [Value.oneCell']) (by unfold maxLen; omega) (by omega) (by have := hbe.size; simp; omega) ?_; intro v1 w1 hown1 hg1 _)
            have hb1 : Below w.heap.size w w1 := (hbe.alloc hbe.size _).grown hg1 (by have := hbe.size; simp; omega) (fun k hk => (hown.lt k hk).1)
            go_roundw
            case rel => exact ⟨k + 2, by omega, by go_num, by rw [hno.out]; simpa using hown1, hb1⟩
            case measure => simp [intOf]; omega
          · have hno := hide (unT_no (s := s) (k := k) (by simp [goneB, h3]))
            rw [h1] at hno
            have hc3 : (bt s (k + 1) == 124) = false := by simp [h3]
            clear h3
            go_wp2_with (at_builtin; refine wpList_append_own _ rfl (.tmp 36) (.tmp 38) 23 rfl w.heap.size 5 i0 (.int .u8 0) 1 1 Try.underlying23 hi0 hz0 hz1 hz2 rfl (by decide) _ (unT s k).length _ rfl (hown.alloc _) ⟨wr.heap.size, 0, none⟩ 1 1 [.int .u8 92] rfl rfl (cellOne _ _ _) (by simp [Value.oneCell']) (by unfold maxLen; omega) (by omega) (by have := hbe.size; simp; omega) ?_; intro v1 w1 hown1 hg1 _)
            have hb1 : Below w.heap.size w w1 := (hbe.alloc hbe.size _).grown hg1 (by have := hbe.size; simp; omega) (fun k hk => (hown.lt k hk).1)
            go_roundw
            case rel => exact ⟨k + 1, by omega, by go_num, by rw [hno.out]; simpa using hown1, hb1⟩
            case measure => simp [intOf]; omega
        · have hc2 : ¬ ((k : Int) + 1 < (s.size : Int)) := by omega
          have hno := hide (unT_no (s := s) (k := k) (by simp [goneB, h2]))
          rw [h1] at hno
          clear hc2
          go_wp2_with (at_builtin; refine wpList_append_own _ rfl (.tmp 36) (.tmp 38) 23 rfl w.heap.size 5 i0 (.int .u8 0) 1 1 Try.underlying23 hi0 hz0 hz1 hz2 rfl (by decide) _ (unT s k).length _ rfl (hown.alloc _) ⟨wr.heap.size, 0, none⟩ 1 1 [.int .u8 92] rfl rfl (cellOne _ _ _) (by simp [Value.oneCell']) (by unfold maxLen; omega) (by omega) (by have := hbe.size; simp; omega) ?_; intro v1 w1 hown1 hg1 _)
          have hb1 : Below w.heap.size w w1 := (hbe.alloc hbe.size _).grown hg1 (by have := hbe.size; simp; omega) (fun k hk => (hown.lt k hk).1)
          go_roundw
          case rel => exact ⟨k + 1, by omega, by go_num, by rw [hno.out]; simpa using hown1, hb1⟩
          case measure => simp [intOf]; omega
      · have hno := hide (unT_no (s := s) (k := k) (by simp [goneB, h1]))
        have hc : (bt s k == 92) = false := by simp [h1]
        clear h1
        go_wp2_with (at_builtin; refine wpList_append_own _ rfl (.tmp 36) (.tmp 38) 23 rfl w.heap.size 5 i0 (.int .u8 0) 1 1 Try.underlying23 hi0 hz0 hz1 hz2 rfl (by decide) _ (unT s k).length _ rfl (hown.alloc _) ⟨wr.heap.size, 0, none⟩ 1 1 [.int .u8 (bt s k)] rfl rfl (cellOne _ _ _) (by simp [Value.oneCell']) (by unfold maxLen; omega) (by omega) (by have := hbe.size; simp; omega) ?_; intro v1 w1 hown1 hg1 _)
        have hb1 : Below w.heap.size w w1 := (hbe.alloc hbe.size _).grown hg1 (by have := hbe.size; simp; omega) (fun k hk => (hown.lt k hk).1)
        go_roundw
        case rel => exact ⟨k + 1, by omega, by go_num, by rw [hno.out]; simpa using hown1, hb1⟩
        case measure => simp [intOf]; omega
    · obtain rfl : k = s.size := by omega
      have hcv := run_conv_own (P := Try.prog) 23 9 5 Try.underlying23 Try.underlying5 Try.underlying9 hown
      go_wp2
      go_ret
      exact ⟨rfl, hbe⟩
end Go.Proofs.Ytgcncmaoinllfaa
