/- Contracts of tableTrimSpace, and of stripped (at both ends) with its closure: each returns the text without the bytes of a class at its ends. Conditions: a text's size is at most 2^63 - 1. -/
import Derived.Test.YtgcncmaoinllfaaProg
import Derived.Test.YtgcncmaoinllfaaBase
import Derived.Test.YtgcncmaoinllfaaChars
import Derived.Test.YtgcncmaoinllfaaTexts
namespace Go.Proofs.Ytgcncmaoinllfaa
open Go.RowKit
def backF (p : Int → Bool) (s : ByteArray) (i : Nat) : Nat → Nat
  | 0 => 0
  | j + 1 => if i < j + 1 ∧ p (bt s j) = true then backF p s i j else j + 1
theorem back_eq {p : Int → Bool} {s : ByteArray} {i m : Nat} (him : i ≤ m) (he : m = i ∨ p (bt s (m - 1)) = false) : ∀ j, m ≤ j → (∀ k, m ≤ k → k < j → p (bt s k) = true) → backF p s i j = m
  | 0, hj, _ => by unfold backF; omega
  | j + 1, hj, ha => by
    unfold backF
    by_cases e : m = j + 1
    · subst e
      rw [if_neg]
      rintro ⟨h1, h2⟩
      rcases he with h | h
      · omega
      · rw [Nat.add_sub_cancel] at h; rw [h] at h2; cases h2
    · rw [if_pos ⟨by omega, ha j (by omega) (by omega)⟩]
      exact back_eq him he j (by omega) (fun k a b => ha k a (by omega))
def trimE (p : Int → Bool) (s : ByteArray) : ByteArray := s.extract (scan p s 0) (backF p s (scan p s 0) s.size)
def tsB (c : Int) : Bool := decide (c = 32 ∨ c = 9 ∨ c = 11 ∨ c = 12)
set_option maxHeartbeats 400000 in
theorem tableTrimSpace_any (s : ByteArray) (w : World) (hs : s.size ≤ maxLen) : Calls Try.prog 46 #[.string s] w fun e w' => e = .returned (.string (trimE tsB s)) ∧ w = w' := by
  unfold maxLen at hs
  have hb := get_bt s
  go_enter Try.func46, Try.ntmps46
  go_wp2
  go_loop [3] (fun i' => ∃ k : Nat, k ≤ s.size ∧ i' = .int .i64 k ∧ Hid (∀ j, j < k → tsB (bt s j) = true)) (fun i => s.size - (intOf i).toNat)
  case atStart => exact ⟨0, by omega, rfl, fun j h => absurd h (by omega)⟩
  case round =>
    obtain ⟨k, hk, rfl, hn⟩ := hrel
    by_cases hlt : k < s.size
    · by_cases hA : tsB (bt s k) = true
      · have hend : ∀ j, j < k + 1 → tsB (bt s j) = true := by
          intro j h2
          by_cases e : j = k
          · subst e; exact hA
          · exact hn j (by omega)
        have hE := hide hend
        unfold tsB at hA
        clear hend
        go_wp2_with (go_at_call 52; refine (isTableSpace_any _ _).mono ?_; rintro e w' ⟨rfl, rfl⟩)
        go_round
        case rel => exact ⟨k + 1, by omega, by go_num, hE⟩
        case measure => simp [intOf]; omega
      · have hA : tsB (bt s k) = false := by simpa using hA
        have hS := hide (scan_eq (p := tsB) (s := s) (i := 0) (j := k) (by omega) (by omega) (fun j a b => hn j b) (.inr hA))
        unfold tsB at hA
        clear hn
        go_wp2_with (go_at_call 52; refine (isTableSpace_any _ _).mono ?_; rintro e w' ⟨rfl, rfl⟩)
        go_loop [4] (fun j' => ∃ m : Nat, k ≤ m ∧ m ≤ s.size ∧ j' = .int .i64 m ∧ Hid (∀ j, m ≤ j → j < s.size → tsB (bt s j) = true)) (fun i => (intOf i).toNat)
        case atStart => exact ⟨s.size, by omega, by omega, rfl, fun j h h' => absurd h (by omega)⟩
        case round =>
          obtain ⟨m, hkm, hm, rfl, hn2⟩ := hrel
          by_cases hl2 : k < m
          · by_cases hA2 : tsB (bt s (m - 1)) = true
            · have hend : ∀ j, m - 1 ≤ j → j < s.size → tsB (bt s j) = true := by
                intro j h1 h2
                by_cases e : j = m - 1
                · subst e; exact hA2
                · exact hn2 j (by omega) h2
              have hE := hide hend
              unfold tsB at hA2
              clear hend
              go_wp2_with (go_at_call 52; refine (isTableSpace_any _ _).mono ?_; rintro e w' ⟨rfl, rfl⟩)
              go_round
              case rel => exact ⟨m - 1, by omega, by omega, congrArg (Value.int .i64) (by omega), hE⟩
              case measure => simp [intOf]; omega
            · have hA2 : tsB (bt s (m - 1)) = false := by simpa using hA2
              have hR := hide (back_eq (p := tsB) (s := s) (i := k) (m := m) (by omega) (.inr hA2) s.size hm (fun j a b => hn2 j a b))
              unfold tsB at hA2
              clear hn2
              go_wp2_with (go_at_call 52; refine (isTableSpace_any _ _).mono ?_; rintro e w' ⟨rfl, rfl⟩)
              go_ret
              exact ⟨ret_str (by unfold trimE; rw [hS.out, hR.out]; try simp), rfl⟩
          · obtain rfl : k = m := by omega
            have hR := hide (back_eq (p := tsB) (s := s) (i := k) (m := k) (by omega) (.inl rfl) s.size hm (fun j a b => hn2 j a b))
            go_wp2
            go_ret
            exact ⟨ret_str (by unfold trimE; rw [hS.out, hR.out]; try simp), rfl⟩
    · obtain rfl : k = s.size := by omega
      have hS := hide (scan_eq (p := tsB) (s := s) (i := 0) (by omega) (by omega) (fun j a b => hn j b) (.inl rfl))
      clear hn
      have hR := hide (back_eq (p := tsB) (s := s) (i := s.size) (m := s.size) (by omega) (.inl rfl) s.size (Nat.le_refl _) (fun j a b => absurd a (by omega)))
      go_wp2
      go_loop [4] (fun j' => j' = .int .i64 s.size) (fun i => (intOf i).toNat)
      case atStart => rfl
      case round =>
        obtain rfl := hrel
        go_wp2
        go_ret
        exact ⟨ret_str (by unfold trimE; rw [hS.out, hR.out]; try simp), rfl⟩
theorem info_u8' : (Try.prog.info? 5).map (fun i => (i.zero, i.size, i.bytes)) = some (some (.int .u8 0), 1, 1) := by kernel_rfl
theorem onlyB_one (A : ByteArray) (c : Int) (hc0 : 0 ≤ c) (hc1 : c ≤ 255) : onlyB (bytesOf [c]) A 1 = inA A c := by
  have h1 : (bytesOf [c]).size = 1 := bytesOf_size [c]
  have h2 : bt (bytesOf [c]) 0 = c := by
    rw [bytesOf_bt [c] (by simp [hc0, hc1]) 0 (by simp)]; rfl
  unfold onlyB
  rw [h1]
  by_cases h : inA A c = true
  · rw [h, allB_yes (fun k hk => by obtain rfl : k = 0 := by omega
                                    rw [h2]; exact h)]
    rfl
  · have h : inA A c = false := by simpa using h
    rw [h, allB_no (k := 0) (by omega) (by rw [h2]; exact h)]
    rfl
/-- The closure of stripped: is a byte in the class? It makes a text of one byte; nothing that was there is written. -/
theorem stripIn_any (A : ByteArray) (c : Int) (hc0 : 0 ≤ c) (hc1 : c ≤ 255) (g : Nat) (w : World) (hg : w.cell? ⟨g, 0, none⟩ = some (.string A)) (hlt : g < w.heap.size) :
    Calls Try.prog 36 #[.int .u8 c, .pointer (some ⟨g, 0, none⟩)] w fun e w' => e = .returned (.bool (inA A c)) ∧ Below w.heap.size w w' := by
  have hcv := fun wx (h : World.ownsRow wx 0 5 1 (.slice (some ⟨w.heap.size, 0, none⟩) 1 1) 1 ([c].map (Value.int .u8))) => run_conv_own (P := Try.prog) 23 9 5 Try.underlying23 Try.underlying5 Try.underlying9 (w := wx) (zs := [c]) h
  have hcv1 := hcv (w.alloc (.cells #[.int .u8 c] 5)) (World.ownsRow_lit _ _ 1 (Nat.zero_le _) (by unfold maxLen; omega) rfl)
  clear hcv
  have hsz : (bytesOf [c]).size ≤ maxLen := by rw [bytesOf_size]; unfold maxLen; simp
  go_enter Try.func36, Try.ntmps36
  go_wp2_with (go_at_call 12; refine (only_any (bytesOf [c]) A 1 _ hsz).mono ?_; rintro e w' ⟨rfl, rfl⟩)
  go_ret
  exact ⟨ret_bool (onlyB_one A c hc0 hc1), (Below.refl _ _).alloc (Nat.le_refl _) _⟩
set_option maxHeartbeats 400000 in
theorem stripped_any (s A : ByteArray) (w : World) (hs : s.size ≤ maxLen) : Calls Try.prog 21 #[.string s, .string A, .bool true, .bool true] w fun e w' => e = .returned (.string (trimE (inA A) s)) ∧ Below w.heap.size w w' := by
  unfold maxLen at hs
  go_enter Try.func21, Try.ntmps21
  go_wp2
  go_loopw [0] (fun t wr => ∃ (k : Nat) (x : ByteArray), k ≤ s.size ∧ t = .string x ∧ Hid (x = s.extract k s.size) ∧ Hid (∀ j, j < k → inA A (bt s j) = true) ∧ Below (w.heap.size + 1) (w.alloc (.cells #[.string A] 9)) wr) (fun t wr => strSize t)
  case atStart => exact ⟨0, s, by omega, rfl, by unfold Hid; simp, fun j h => absurd h (by omega), Below.refl _ _⟩
  case round =>
    obtain ⟨k, x, hk, rfl, hx, hn, hbe⟩ := hrel
    have hg : wr.cell? ⟨w.heap.size, 0, none⟩ = some (.string A) := by rw [hbe.cell (by simp)]; simp
    have hgl : w.heap.size < wr.heap.size := by have := hbe.size; simp at this; omega
    have hb := get_bt x
    have hxs := ex_size hx (Nat.le_refl _)
    by_cases hlt : k < s.size
    · have hxp : 0 < x.size := by omega
      have hxl : x.size ≤ s.size := by omega
      have hne := nonempty_of hxp
      have HXS := hide hxs
      have HX0 : Hid (bt x 0 = bt s k) := by have := ex_bt (i := 0) hx (Nat.le_refl _) (by omega); rwa [Nat.add_zero] at this
      clear hxs
      have h0 := bt_nonneg x 0
      have h255 := bt_le x 0
      by_cases hin : inA A (bt x 0) = true
      · go_wp2_with (go_at_call 36; refine (stripIn_any A (bt x 0) h0 h255 w.heap.size _ hg hgl).mono ?_; rintro e w1 ⟨rfl, hb1⟩)
        go_roundw
        case rel =>
          refine ⟨k + 1, _, by omega, rfl, ex_tail hx.out (Nat.le_refl _) hlt, fun j hj => ?_, hbe.trans (hb1.mono (by omega))⟩
          by_cases e : j = k
          · subst e; rw [← HX0.out]; exact hin
          · exact hn j (by omega)
        case measure => simp [strSize]; omega
      · have hin : inA A (bt x 0) = false := by simpa using hin
        have hS := hide (scan_eq (p := inA A) (s := s) (i := 0) (j := k) (by omega) (by omega) (fun j a b => hn j b) (.inr (by rw [← HX0.out]; exact hin)))
        go_wp2_with (go_at_call 36; refine (stripIn_any A (bt x 0) h0 h255 w.heap.size _ hg hgl).mono ?_; rintro e w1 ⟨rfl, hb1⟩)
        have HBE := hide (hbe.trans (hb1.mono (by omega)))
        clear hbe hb1
        go_loopw [0] (fun t wr => ∃ (m : Nat) (x : ByteArray), k ≤ m ∧ m ≤ s.size ∧ t = .string x ∧ Hid (x = s.extract k m) ∧ Hid (∀ j, m ≤ j → j < s.size → inA A (bt s j) = true) ∧ Below (w.heap.size + 1) (w.alloc (.cells #[.string A] 9)) wr) (fun t wr => strSize t)
        case atStart => exact ⟨s.size, x, by omega, Nat.le_refl _, rfl, hx, fun j h h' => absurd h (by omega), HBE.out⟩
        case round =>
          clear hn hx hb h0 h255 hxp hg hgl HX0 HXS HBE hne hxl hin
          obtain ⟨m, y, hkm, hm, rfl, hx, hn, hbe⟩ := hrel
          rename_i wr
          have hg : wr.cell? ⟨w.heap.size, 0, none⟩ = some (.string A) := by rw [hbe.cell (by simp)]; simp
          have hgl : w.heap.size < wr.heap.size := by have := hbe.size; simp at this; omega
          have hb := get_bt y
          have hys := ex_size hx hm
          by_cases hl2 : k < m
          · have hyp : 0 < y.size := by omega
            have hyl : y.size ≤ s.size := by omega
            have hne := nonempty_of hyp
            have HX0 : Hid (bt y (y.size - 1) = bt s (m - 1)) := by
              have := ex_bt (i := y.size - 1) hx hm (by omega)
              rwa [show k + (y.size - 1) = m - 1 by omega] at this
            have HYS := hide hys
            clear hys
            have h0 := bt_nonneg y (y.size - 1)
            have h255 := bt_le y (y.size - 1)
            by_cases hin : inA A (bt y (y.size - 1)) = true
            · go_wp2_with (go_at_call 36; refine (stripIn_any A (bt y (y.size - 1)) h0 h255 w.heap.size _ hg hgl).mono ?_; rintro e w1 ⟨rfl, hb1⟩)
              go_roundw
              case rel =>
                refine ⟨m - 1, _, by omega, by omega, rfl, ex_init hx.out hm hl2, fun j h1 h2 => ?_, hbe.trans (hb1.mono (by omega))⟩
                by_cases e : j = m - 1
                · subst e; rw [← HX0.out]; exact hin
                · exact hn j (by omega) h2
              case measure => simp [strSize]; omega
            · have hin : inA A (bt y (y.size - 1)) = false := by simpa using hin
              have hR := hide (back_eq (p := inA A) (s := s) (i := k) (m := m) (by omega) (.inr (by rw [← HX0.out]; exact hin)) s.size hm (fun j a b => hn j a b))
              go_wp2_with (go_at_call 36; refine (stripIn_any A (bt y (y.size - 1)) h0 h255 w.heap.size _ hg hgl).mono ?_; rintro e w1 ⟨rfl, hb1⟩)
              go_ret
              exact ⟨ret_str (by unfold trimE; rw [hS.out, hR.out]; exact hx.out), (((Below.refl _ _).alloc (Nat.le_refl _) _).trans ((hbe.trans (hb1.mono (by omega))).mono (by omega)))⟩
          · obtain rfl : k = m := by omega
            have hyp : y.size = 0 := by omega
            have hne := empty_of hyp
            have hR := hide (back_eq (p := inA A) (s := s) (i := k) (m := k) (by omega) (.inl rfl) s.size hm (fun j a b => hn j a b))
            go_wp2
            go_ret
            exact ⟨ret_str (by unfold trimE; rw [hS.out, hR.out]; exact hx.out), (((Below.refl _ _).alloc (Nat.le_refl _) _).trans (hbe.mono (by omega)))⟩
    · obtain rfl : k = s.size := by omega
      have hxp : x.size = 0 := by omega
      have hne := empty_of hxp
      have hS := hide (scan_eq (p := inA A) (s := s) (i := 0) (by omega) (by omega) (fun j a b => hn j b) (.inl rfl))
      have hR := hide (back_eq (p := inA A) (s := s) (i := s.size) (m := s.size) (by omega) (.inl rfl) s.size (Nat.le_refl _) (fun j a b => absurd a (by omega)))
      clear hn
      go_wp2
      go_loop [0] (fun t => t = .string x) (fun i => 0)
      case atStart => rfl
      case round =>
        obtain rfl := hrel
        go_wp2
        go_ret
        exact ⟨ret_str (by unfold trimE; rw [hS.out, hR.out]; exact hx.out), (((Below.refl _ _).alloc (Nat.le_refl _) _).trans (hbe.mono (by omega)))⟩
end Go.Proofs.Ytgcncmaoinllfaa
