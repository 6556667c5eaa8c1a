/- The text of a block of code: builder.code. Conditions: the builder's block holds at most 300 readable bytes. -/
import Derived.Test.YtipniinmajoolaaGreatDoorBl7
namespace Go.Proofs.YtipniinmajoolaaGreatDoor
open Go.RowKit
/-- A row of strings behind one more. -/
theorem Strs.snoc {B g cap n M : Nat} {w : World} {ss : List ByteArray} {x : ByteArray} (h : w.ownsRow B 9 1 (.slice (some ⟨g, 0, none⟩) (n + 1) cap) (n + 1) (ss.map .string ++ [.string x])) (h1 : ss.length = n) (h3 : ∀ s ∈ ss, s.size ≤ M) (hx : x.size ≤ M) : Strs B w (.slice (some ⟨g, 0, none⟩) (n + 1) cap) (n + 1) M :=
  ⟨ss ++ [x], by rw [List.length_append, h1]; rfl, by rw [List.map_append]; exact h, fun q hq => by
    rcases List.mem_append.1 hq with q1 | q1
    · exact h3 q q1
    · have : q = x := by simpa using q1
      rw [this]; exact hx⟩
theorem Strs.one (w : World) (x : ByteArray) (M : Nat) (hx : x.size ≤ M) : Strs w.heap.size (w.alloc (.cells #[.string x] 9)) (.slice (some ⟨w.heap.size, 0, none⟩) 1 1) 1 M :=
  ⟨[x], rfl, ⟨rfl, .inr ⟨w.heap.size, 1, #[.string x], rfl, Nat.le_refl _, heap_alloc_new w _, Nat.le_refl _, by unfold maxLen; omega, rfl, rfl⟩⟩, fun q hq => by
    have : q = x := by simpa using hq
    rw [this]; exact hx⟩
theorem Strs.step {B bb : Nat} {w w' : World} {tv : Value} {n M : Nat} (h : Strs B w tv n M) (hg : w.grownBy w' (some bb)) (hb : bb < B) : Strs B w' tv n M :=
  h.move (fun g e => hg.block g (h.lt g e).2 (fun e2 => by have := Option.some.inj e2; have := (h.lt g e).1; omega)) (Nat.le_refl _)
theorem Strs.alloc {B : Nat} {w : World} {tv : Value} {n M : Nat} (h : Strs B w tv n M) (o : Obj) : Strs B (w.alloc o) tv n M :=
  h.move (fun g e => Below.heap_alloc _ _ _ (h.lt g e).2) (Nat.le_refl _)
/-- What code gives. -/
def CodeP (bb : Nat) (bv : Value) (N : Nat) (w : World) (e : Ending) (w' : World) : Prop := ∃ (g n cap : Nat) (s : ByteArray), e = .returned (.tuple #[.slice (some ⟨g, 0, none⟩) n cap, .string s]) ∧ 0 < n ∧ n ≤ 3 ∧ Strs w.heap.size w' (.slice (some ⟨g, 0, none⟩) n cap) n 6 ∧ 0 < s.size ∧ s.size ≤ 100 ∧ bt s (s.size - 1) = 10 ∧ BOk bb bv N w' ∧ w.grownBy w' (some bb)
set_option maxHeartbeats 4000000 in
set_option maxRecDepth 100000 in
theorem code_any (bb : Nat) (bv : Value) (N : Nat) (w : World) (hB : BOk bb bv N w) :
    Calls Tryz.prog 35 #[.pointer (some ⟨bb, 0, none⟩)] w (CodeP bb bv N w) := by
  have hbl := hB.lt
  have W1 := hide (fun w1 h => word_any bb bv N w1 h)
  have N3 := hide (fun w1 h => next_any bb bv N 3 w1 (by omega) (by omega) h)
  have HB := hide hB
  clear hB
  obtain ⟨i0, hi0, hz0, hz1, hz2⟩ := info_parts info_str
  go_enter Tryz.func35, Tryz.ntmps35
  go_wp2_with (first | (go_at_call 34; refine (W1.out _ HB.out).mono ?_; rintro e w1 ⟨x, rfl, hx, hB1, hg1⟩; have HX := hide hx; have HG1 := hide hg1; have HB1 := hide hB1; clear hx hg1 hB1 HB) | (go_at_call 14; refine (N3.out _ (HB1.out.alloc _)).mono ?_; rintro e w2 ⟨r, rfl, hr, hB2, hg2⟩))
  have S0 : Hid (Strs w.heap.size w2 (.slice (some ⟨w1.heap.size, 0, none⟩) 1 1) 1 6 ∧ BOk bb bv N w2 ∧ w.grownBy w2 (some bb)) := by
    have hs1 := HG1.out.size
    have h1 := Strs.one w1 x 6 (by have := HX.out.2.1; omega)
    refine ⟨h1.move (fun g e => hg2.block g (h1.lt g e).2 (fun e2 => by have := Option.some.inj e2; have := (h1.lt g e).1; omega)) hs1, hB2, grown_trans (grown_trans HG1.out (World.grownBy_alloc _ _ _)) hg2⟩
  clear hB2 hg2 HB1 HG1 HX
  go_loopw [4, 10] (fun tv kv wr => ∃ k g cap : Nat, k ≤ r ∧ tv = .slice (some ⟨g, 0, none⟩) (k + 1) cap ∧ kv = .int .i64 k ∧ Hid (Strs w.heap.size wr (.slice (some ⟨g, 0, none⟩) (k + 1) cap) (k + 1) 6 ∧ BOk bb bv N wr ∧ w.grownBy wr (some bb))) (fun _ kv _ => r - (intOf kv).toNat)
  case atStart => exact ⟨0, w1.heap.size, 1, by omega, rfl, rfl, S0.out⟩
  case round =>
    obtain ⟨k, g, cap, hk, rfl, rfl, S⟩ := hrel
    clear S0
    by_cases hlt : k < r
    · have hltI : (k : Int) < (r : Int) := by omega
      have P1 := hide (fun m (h : m < 3) wx => pad_any m wx (by omega))
      go_wp2_with (first | (go_at_call 14; refine (N3.out _ S.out.2.1).mono ?_; rintro e w3 ⟨q, rfl, hq, hB3, hg3⟩; have HB3 := hide hB3; have HG3 := hide hg3; clear hB3 hg3) | (go_at_call 49; refine (P1.out _ hq _).mono ?_; rintro e w4 ⟨⟨t, rfl, ht⟩, rfl⟩) | (go_at_call 34; refine (W1.out _ HB3.out).mono ?_; rintro e w5 ⟨y, rfl, hy, hB5, hg5⟩; have hys := hy.2.1; have HS := hide (S.out.1.step (grown_trans HG3.out hg5) hbl); obtain ⟨ss, s1, s2, s3⟩ := HS.out; have S1 := hide s1; have S2 := hide (s2.alloc (.cells #[.string (t ++ y)] 9)); have S3 := hide s3; have HG5 := hide (grown_trans S.out.2.2 (grown_trans HG3.out hg5)); have HB5 := hide hB5; have hBs := HG5.out.size; clear HS s1 s2 s3 hy hB5 hg5) | (at_builtin; refine wpList_append_lies _ rfl (.tmp 12) (.tmp 19) 40 rfl w.heap.size 9 i0 (.string ⟨#[]⟩) 1 16 Tryz.underlying40 hi0 hz0 hz1 hz2 rfl (by decide) _ (k + 1) (ss.map .string) rfl S2.out ⟨w5.heap.size, 0, none⟩ 1 1 [.string (t ++ y)] rfl rfl (cellOne _ _ _) (by simp [Value.oneCell']) (by omega) (by unfold maxLen; omega) (by omega) (by rw [World.size_alloc']; omega) (w5.heap.size + 1) (by simp) ?_; intro g2 cap2 w6 hown2 hg2 hat2 hlt2))
      have HR : Hid (Strs w.heap.size w6 (.slice (some ⟨g2, 0, none⟩) (k + 1 + 1) cap2) (k + 1 + 1) 6 ∧ BOk bb bv N w6 ∧ w.grownBy w6 (some bb)) := by
        have hown : ∀ q, (Value.slice (some ⟨g, 0, none⟩) (k + 1) cap).ownBlock = some q → w.heap.size ≤ q := fun q hq => (S.out.1.lt q hq).1
        refine ⟨Strs.snoc hown2 S1.out S3.out (by rw [ByteArray.size_append]; omega), (HB5.out.alloc _).old hg2.size (fun j hj => hg2.block j (by have := HB5.out.lt; rw [World.size_alloc']; omega) (fun e => by have := hown j e.symm; omega)), grown_own (grown_trans HG5.out (World.grownBy_alloc _ _ _)) hg2 hown⟩
      clear hown2 hg2 hat2 hlt2 HG3 HB3
      go_roundw
      case rel => exact ⟨k + 1, g2, cap2, by omega, rfl, by go_num, HR.out⟩
      case measure => simp [intOf]; omega
    · obtain rfl : k = r := by omega
      have hltI : ¬ ((k : Int) < (k : Int)) := by omega
      have J := hide (joined_any g (k + 1) cap 6 wr S.out.1.read (by omega) (by omega))
      have hmul : (k + 1) * (6 + 1) ≤ 21 := Nat.mul_le_mul (by omega : k + 1 ≤ 3) (Nat.le_refl 7)
      go_wp2_with (go_at_call 10; refine J.out.mono ?_; rintro e w1 ⟨⟨t, rfl, ht⟩, rfl⟩; have htz : t.size ≤ 21 := Nat.le_trans ht hmul)
      go_ret2
      have e1 : (t ++ (⟨#[10]⟩ : ByteArray)).size = t.size + 1 := ByteArray.size_append
      refine ⟨g, k + 1, cap, t ++ ⟨#[10]⟩, rfl, by omega, by omega, S.out.1, by omega, by omega, ?_, S.out.2.1, S.out.2.2⟩
      rw [e1, Nat.add_sub_cancel, show t.size = t.size + 0 by omega, bt_right]
      decide
end Go.Proofs.YtipniinmajoolaaGreatDoor
