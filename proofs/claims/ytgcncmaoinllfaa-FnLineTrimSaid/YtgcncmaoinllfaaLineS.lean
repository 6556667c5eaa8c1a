/- Contracts of the reference's Start, Indent, Skip and Rest, at the beginning of a line. Conditions: texts of at most 200 bytes, at most 100 columns. -/
import Derived.Test.YtgcncmaoinllfaaLine
namespace Go.Proofs.Ytgcncmaoinllfaa
open Go.RowKit
theorem start_any (s : ByteArray) (w : World) : Calls Try.prog 26 #[.string s] w fun e w' => e = .returned (.agg #[.string s, .int .i64 0, .int .i64 0, .int .i64 0]) ∧ Below w.heap.size w w' := by
  go_enter Try.func26, Try.ntmps26
  go_wp2
  refine bodyPost_ret (v := .agg #[.string s, .int .i64 0, .int .i64 0, .int .i64 0]) (by simp [results, Try.results26, go_sem]) rfl ⟨rfl, (Below.refl _ _).alloc (Nat.le_refl _) _⟩
/-- All white space at the front: W columns, up to place i. -/
def Whole_ (s : ByteArray) (W i : Nat) : Prop := colS s W = some (0, i) ∧ colS s (W + 1) = none
theorem col_four {s : ByteArray} : ∀ {m sp i : Nat}, colS s m = some (sp, i) → m + sp ≤ 4 * i
  | 0, sp, i, h => by simp [colS] at h; omega
  | m + 1, sp, i, h => by
    rw [colS] at h
    cases hm : colS s m with
    | none => rw [hm] at h; cases h
    | some x =>
      obtain ⟨sp', i'⟩ := x
      have := col_four hm
      rw [hm] at h
      simp only at h
      split at h
      · simp at h; omega
      · split at h
        · simp at h; omega
        · split at h
          · simp at h; omega
          · cases h
theorem whole_ex (s : ByteArray) : ∃ W i, Whole_ s W i := by
  obtain ⟨m, sp, i, h1, h2, h3⟩ := fin_ex s (4 * s.size + 1)
  have h4 := col_four h1
  have h5 := (col_le h1).1
  rcases h3 with h3 | h3
  · omega
  · have h6 : sp = 0 := by
      apply Nat.eq_zero_of_not_pos
      intro hp
      have := col_down (s := s) (m := m) (sp := sp - 1) (i := i) (by rw [show sp - 1 + 1 = sp by omega]; exact h1)
      rw [h3] at this; cases this
    subst h6
    exact ⟨m, i, h1, h3⟩
theorem whole_uniq {s : ByteArray} {W i W' i' : Nat} (h : Whole_ s W i) (h' : Whole_ s W' i') : W = W' ∧ i = i' := by
  have key : ∀ {a b x y : Nat}, Whole_ s a x → Whole_ s b y → b ≤ a := by
    intro a b x y h1 h2
    apply Nat.le_of_not_lt
    intro hlt
    have := col_none h1.2 (b - (a + 1))
    rw [show a + 1 + (b - (a + 1)) = b by omega, h2.1] at this
    cases this
  obtain rfl : W = W' := Nat.le_antisymm (key h' h) (key h h')
  have := h.1.symm.trans h'.1
  simp at this
  exact ⟨rfl, this⟩
theorem whole_fin {s : ByteArray} {W i most m sp j least : Nat} (h : Whole_ s W i) (hF : Fin_ s most m sp j) (hl : least ≤ most) : decide ((least : Int) ≤ (W : Int)) = decide (least ≤ m) := by
  have h1 : m ≤ W := by
    apply Nat.le_of_not_lt
    intro hlt
    have := col_none h.2 (m - (W + 1))
    rw [show W + 1 + (m - (W + 1)) = m by omega, hF.1] at this
    cases this
  rw [Bool.eq_iff_iff]
  simp only [decide_eq_true_eq]
  rcases hF.2.2 with h2 | h2
  · omega
  · have : W ≤ m := by
      apply Nat.le_of_not_lt
      intro hlt
      have := col_none h2 (W - (m + 1))
      rw [show m + 1 + (W - (m + 1)) = W by omega, h.1] at this
      cases this
    omega
set_option maxHeartbeats 2000000 in
theorem indent_any (s : ByteArray) (W i : Nat) (w : World) (hs : s.size ≤ 200) (hW : Whole_ s W i) :
    Calls Try.prog 25 #[.agg #[.string s, .int .i64 0, .int .i64 0, .int .i64 0]] w fun e w' => e = .returned (.tuple #[.int .i64 W, .int .i64 i]) ∧ Below w.heap.size w w' := by
  have hb := get_bt s
  have HW := hide hW
  clear hW
  go_enter Try.func25, Try.ntmps25
  go_wp2
  go_loop [4, 5, 6] (fun n c i' => ∃ k j : Nat, n = .int .i64 k ∧ c = .int .i64 k ∧ i' = .int .i64 j ∧ Hid (colS s k = some (0, j))) (fun _ _ i' => s.size - (intOf i').toNat)
  case atStart => exact ⟨0, 0, rfl, rfl, rfl, rfl⟩
  case round =>
    obtain ⟨k, j, rfl, rfl, rfl, hc⟩ := hrel
    have hj := (col_le hc.out).1
    have hk := col_four hc.out
    by_cases hws : j < s.size ∧ (bt s j = 9 ∨ bt s j = 32)
    · obtain ⟨hlt, hws⟩ := hws
      have hltI : (j : Int) < (s.size : Int) := by omega
      rcases hws with h9 | h32
      · have c1 : (bt s j == 9) = true := by simp [h9]
        have c2 : (bt s j == 32) = false := by simp [h9]
        have hn : Hid (colS s (k + (4 - k % 4)) = some (0, j + 1)) := by
          have h1 := col_downs (col_tab hc.out hlt h9) (3 - k % 4) (Nat.le_refl _)
          rw [Nat.sub_self, show k + 1 + (3 - k % 4) = k + (4 - k % 4) by omega] at h1
          exact h1
        clear h9
        go_wp2
        go_round
        case rel => exact ⟨k + (4 - k % 4), j + 1, congrArg (Value.int .i64) (by omega), congrArg (Value.int .i64) (by omega), by go_num, hn⟩
        case measure => simp [intOf]; omega
      · have c1 : (bt s j == 9) = false := by simp [h32]
        have c2 : (bt s j == 32) = true := by simp [h32]
        have hn := hide (col_space hc.out hlt h32)
        clear h32
        go_wp2
        go_round
        case rel => exact ⟨k + 1, j + 1, by go_num, by go_num, by go_num, hn⟩
        case measure => simp [intOf]; omega
    · have hend := col_end hc.out hws
      obtain ⟨rfl, rfl⟩ := whole_uniq HW.out ⟨hc.out, hend⟩
      clear hend
      by_cases hlt : i < s.size
      · have c1 : (bt s i == 9) = false := by simp; omega
        have c2 : (bt s i == 32) = false := by simp; omega
        have hltI : (i : Int) < (s.size : Int) := by omega
        clear hws
        go_wp2
        go_ret2
        exact ⟨rfl, (Below.refl _ _).alloc (Nat.le_refl _) _⟩
      · have hltI : ¬ (i : Int) < (s.size : Int) := by omega
        clear hws
        go_wp2
        go_ret2
        exact ⟨rfl, (Below.refl _ _).alloc (Nat.le_refl _) _⟩
theorem spc_size : ∀ j, j < 4 → (spc j).size ≤ 3 := by decide
theorem spc_succ : ∀ j, j < 3 → spc j ++ ⟨#[32]⟩ = spc (j + 1) := by decide
set_option maxHeartbeats 1000000 in
theorem rest_any (s : ByteArray) (i c sp : Nat) (w : World) (hs : s.size ≤ 200) (hi : i ≤ s.size) (hsp : sp ≤ 3) :
    Calls Try.prog 27 #[.agg #[.string s, .int .i64 i, .int .i64 c, .int .i64 sp]] w fun e w' => e = .returned (.string (restS sp s i)) ∧ Below w.heap.size w w' := by
  go_enter Try.func27, Try.ntmps27
  go_wp2
  go_loop [3, 4] (fun t n => ∃ j : Nat, j ≤ sp ∧ t = .string (spc j) ∧ n = .int .i64 j) (fun _ n => 3 - (intOf n).toNat)
  case atStart => exact ⟨0, by omega, rfl, rfl⟩
  case round =>
    obtain ⟨j, hj, rfl, rfl⟩ := hrel
    have hz := spc_size j (by omega)
    by_cases hlt : j < sp
    · have hS := hide (spc_succ j (by omega))
      go_wp2
      go_round
      case rel => exact ⟨j + 1, by omega, by rw [← hS.out], by go_num⟩
      case measure => simp [intOf]; omega
    · obtain rfl : j = sp := by omega
      go_wp2
      go_ret
      exact ⟨rfl, (Below.refl _ _).alloc (Nat.le_refl _) _⟩
def cellI (w : World) (a : Addr) : Int := match w.cell? a with | some (.int _ q) => q | _ => 0
/-- Skip's state: c columns are taken, l of a tab's are left, the place is a. -/
def SkipAt (s : ByteArray) (most a c l : Nat) : Prop := c ≤ most ∧ a ≤ s.size ∧ l ≤ 4 ∧ ((l = 0 ∧ colS s c = some (0, a)) ∨ (0 < l ∧ c < most ∧ colS s (c + 1) = some (l - 1, a)) ∨ (0 < l ∧ c = most ∧ colS s c = some (l, a)))
theorem skip_fin {s : ByteArray} {most a c l m sp i : Nat} (h : SkipAt s most a c l) (hF : Fin_ s most m sp i) (hc : c = most) : m = c ∧ sp = l ∧ i = a := by
  have h1 : colS s c = some (l, a) := by
    rcases h.2.2.2 with h | h | h
    · rw [h.1]; exact h.2
    · omega
    · exact h.2.2
  have := fin_uniq hF ⟨h1, h.1, .inl hc⟩
  exact ⟨this.1, this.2.1, this.2.2⟩
theorem skip_stuck {s : ByteArray} {most a c m sp i : Nat} (h : SkipAt s most a c 0) (hF : Fin_ s most m sp i) (hb : ¬ (a < s.size ∧ (bt s a = 9 ∨ bt s a = 32))) : m = c ∧ sp = 0 ∧ i = a := by
  have h1 : colS s c = some (0, a) := by
    rcases h.2.2.2 with h | h | h
    · exact h.2
    · omega
    · omega
  have := fin_uniq hF ⟨h1, h.1, .inr (col_end h1 hb)⟩
  exact ⟨this.1, this.2.1, this.2.2⟩
theorem skip_left {s : ByteArray} {most a c l k : Nat} (h : SkipAt s most a c l) (hl : 0 < l) (hc : c < most) (hk : k = min l (most - c)) : SkipAt s most a (c + k) (l - k) := by
  have h1 : colS s (c + 1) = some (l - 1, a) := by
    rcases h.2.2.2 with h | h | h
    · omega
    · exact h.2.2
    · omega
  have h2 := col_downs h1 (k - 1) (by omega)
  rw [show c + 1 + (k - 1) = c + k by omega, show l - 1 - (k - 1) = l - k by omega] at h2
  refine ⟨by omega, h.2.1, by have := h.2.2.1; omega, ?_⟩
  by_cases e : l - k = 0
  · exact .inl ⟨e, by rw [e] at h2; exact h2⟩
  · exact .inr (.inr ⟨by omega, by omega, h2⟩)
theorem skip_tab {s : ByteArray} {most a c : Nat} (h : SkipAt s most a c 0) (hc : c < most) (ha : a < s.size) (hb : bt s a = 9) : SkipAt s most (a + 1) c (4 - c % 4) := by
  have h1 : colS s c = some (0, a) := by
    rcases h.2.2.2 with h | h | h
    · exact h.2
    · omega
    · omega
  have h2 := col_tab h1 ha hb
  exact ⟨h.1, by omega, by omega, .inr (.inl ⟨by omega, hc, by rw [h2]; congr 2; omega⟩)⟩
theorem skip_space {s : ByteArray} {most a c : Nat} (h : SkipAt s most a c 0) (hc : c < most) (ha : a < s.size) (hb : bt s a = 32) : SkipAt s most (a + 1) (c + 1) 0 := by
  have h1 : colS s c = some (0, a) := by
    rcases h.2.2.2 with h | h | h
    · exact h.2
    · omega
    · omega
  exact ⟨by omega, by omega, by omega, .inl ⟨rfl, col_space h1 ha hb⟩⟩
theorem two_alloc (w : World) (s : ByteArray) (T : TypeId) (o : Obj) {a a' c c' l l' : Int} (h1 : a = a') (h2 : c = c') (h3 : l = l') :
    (w.alloc (.cells #[.string s, .int .i64 a, .int .i64 c, .int .i64 l] T)).alloc o = (w.alloc (.cells #[.string s, .int .i64 a', .int .i64 c', .int .i64 l'] T)).alloc o := by rw [h1, h2, h3]
set_option maxHeartbeats 2000000 in
theorem skip_any (s : ByteArray) (most m sp i : Nat) (w : World) (hs : s.size ≤ 200) (hm : most ≤ 100) (hF : Fin_ s most m sp i) :
    Calls Try.prog 28 #[.agg #[.string s, .int .i64 0, .int .i64 0, .int .i64 0], .int .i64 most] w fun e w' => e = .returned (.agg #[.string s, .int .i64 i, .int .i64 m, .int .i64 sp]) ∧ Below w.heap.size w w' := by
  have hb := get_bt s
  have HF := hide hF
  clear hF
  go_enter Try.func28, Try.ntmps28
  go_wp2
  go_loopw [1] (fun n wr => ∃ a c l : Nat, n = .int .i64 ((most - c : Nat) : Int) ∧ Hid (SkipAt s most a c l) ∧ wr = (w.alloc (.cells #[.string s, .int .i64 a, .int .i64 c, .int .i64 l] 42)).alloc (.cells #[.string ⟨#[]⟩, .int .i64 0, .int .i64 0, .int .i64 0] 42)) (fun n wr => (intOf n).toNat + (s.size - (cellI wr ⟨w.heap.size, 1, none⟩).toNat))
  case atStart => exact ⟨0, 0, 0, rfl, ⟨by omega, by omega, by omega, .inl ⟨rfl, rfl⟩⟩, rfl⟩
  case round =>
    obtain ⟨a, c, l, rfl, hk, rfl⟩ := hrel
    have hk1 := hk.out.1
    have hk2 := hk.out.2.1
    have hk3 := hk.out.2.2.1
    by_cases hc : c < most
    · have hcI : (0 : Int) < ((most - c : Nat) : Int) := by omega
      by_cases hl : 0 < l
      · have hlI : (0 : Int) < (l : Int) := by omega
        by_cases hmin : l ≤ most - c
        · have hn := hide (skip_left hk.out hl hc (k := l) (by omega))
          rw [Nat.sub_self] at hn
          have hmI : (l : Int) ≤ ((most - c : Nat) : Int) := by omega
          go_wp2
          go_roundw
          case rel => exact ⟨a, c + l, 0, congrArg (Value.int .i64) (by omega), hn, two_alloc w s _ _ (by omega) (by omega) (by omega)⟩
          case measure => simp [intOf, cellI]; omega
        · have hn := hide (skip_left hk.out hl hc (k := most - c) (by omega))
          have hmI : ((most - c : Nat) : Int) < (l : Int) := by omega
          go_wp2
          go_roundw
          case rel => exact ⟨a, c + (most - c), l - (most - c), congrArg (Value.int .i64) (by omega), hn, two_alloc w s _ _ (by omega) (by omega) (by omega)⟩
          case measure => simp [intOf, cellI]; omega
      · obtain rfl : l = 0 := by omega
        clear hl
        by_cases hws : a < s.size ∧ (bt s a = 9 ∨ bt s a = 32)
        · obtain ⟨hlt, hws⟩ := hws
          have hne : ((a : Int) == (s.size : Int)) = false := by simp; omega
          rcases hws with h9 | h32
          · have c1 : (bt s a != 32) = true := by simp [h9]
            have c2 : (bt s a != 9) = false := by simp [h9]
            have c3 : (bt s a == 32) = false := by simp [h9]
            have hn := hide (skip_tab hk.out hc hlt h9)
            clear h9
            go_wp2
            go_roundw
            case rel => exact ⟨a + 1, c, 4 - c % 4, rfl, hn, two_alloc w s _ _ (by omega) (by omega) (by omega)⟩
            case measure => simp [intOf, cellI]; omega
          · have c1 : (bt s a != 32) = false := by simp [h32]
            have c3 : (bt s a == 32) = true := by simp [h32]
            have hn := hide (skip_space hk.out hc hlt h32)
            clear h32
            go_wp2
            go_roundw
            case rel => exact ⟨a + 1, c + 1, 0, congrArg (Value.int .i64) (by omega), hn, two_alloc w s _ _ (by omega) (by omega) (by omega)⟩
            case measure => simp [intOf, cellI]; omega
        · obtain ⟨rfl, rfl, rfl⟩ := skip_stuck hk.out HF.out hws
          by_cases hlt : i < s.size
          · have hne : ((i : Int) == (s.size : Int)) = false := by simp; omega
            have c1 : (bt s i != 32) = true := by simp; omega
            have c2 : (bt s i != 9) = true := by simp; omega
            clear hws
            go_wp2
            refine bodyPost_ret (v := .agg #[.string s, .int .i64 i, .int .i64 m, .int .i64 0]) (by simp [results, Try.results28, go_sem]) rfl ⟨rfl, ?_⟩
            go_grown
          · have hne : ((i : Int) == (s.size : Int)) = true := by simp; omega
            clear hws
            go_wp2
            refine bodyPost_ret (v := .agg #[.string s, .int .i64 i, .int .i64 m, .int .i64 0]) (by simp [results, Try.results28, go_sem]) rfl ⟨rfl, ?_⟩
            go_grown
    · obtain ⟨rfl, rfl, rfl⟩ := skip_fin hk.out HF.out (by omega)
      have hcI : ¬ (0 : Int) < ((most - m : Nat) : Int) := by omega
      go_wp2
      refine bodyPost_ret (v := .agg #[.string s, .int .i64 i, .int .i64 m, .int .i64 sp]) (by simp [results, Try.results28, go_sem]) rfl ⟨rfl, ?_⟩
      go_grown
end Go.Proofs.Ytgcncmaoinllfaa
