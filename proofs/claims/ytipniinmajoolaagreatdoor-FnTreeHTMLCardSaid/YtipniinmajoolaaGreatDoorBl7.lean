/- Small parts of the builder: times, Pad, decimal, joined, indented, code. Conditions: sizes, as each states them. -/
import Derived.Test.YtipniinmajoolaaGreatDoorBl6
namespace Go.Proofs.YtipniinmajoolaaGreatDoor
open Go.RowKit
set_option maxHeartbeats 1000000 in
theorem times_any (s : ByteArray) (n : Nat) (w : World) (hs : s.size ≤ 100) (hn : n ≤ 100) : Calls Tryz.prog 33 #[.string s, .int .i64 n] w fun e w' => (∃ t : ByteArray, e = .returned (.string t) ∧ t.size = n * s.size) ∧ w = w' := by
  go_enter Tryz.func33, Tryz.ntmps33
  go_wp2
  go_loop [5, 7] (fun o kv => ∃ (k : Nat) (t : ByteArray), k ≤ n ∧ o = .string t ∧ kv = .int .i64 k ∧ Hid (t.size = k * s.size) ∧ t.size ≤ 10000) (fun _ kv => n - (intOf kv).toNat)
  case atStart => exact ⟨0, ByteArray.empty, by omega, rfl, rfl, by unfold Hid; rw [Nat.zero_mul]; rfl, by decide⟩
  case round =>
    obtain ⟨k, t, hk, rfl, rfl, ht, htz⟩ := hrel
    by_cases hlt : k < n
    · have hltI : (k : Int) < (n : Int) := by omega
      have e : (t ++ s).size = t.size + s.size := ByteArray.size_append
      have h2 : Hid ((t ++ s).size = (k + 1) * s.size) := by unfold Hid; rw [e, ht.out, Nat.succ_mul]
      have h3 : Hid ((t ++ s).size ≤ 10000) := by
        unfold Hid
        rw [h2.out]
        have : (k + 1) * s.size ≤ 100 * 100 := Nat.mul_le_mul (by omega) hs
        omega
      clear e
      go_wp2
      go_round
      case rel => exact ⟨k + 1, _, by omega, rfl, by go_num, h2, h3.out⟩
      case measure => simp [intOf]; omega
    · obtain rfl : k = n := by omega
      have hltI : ¬ ((k : Int) < (k : Int)) := by omega
      go_wp2
      go_ret
      exact ⟨⟨t, rfl, ht.out⟩, rfl⟩
set_option maxHeartbeats 1000000 in
theorem pad_any (n : Nat) (w : World) (hn : n ≤ 100) : Calls Tryz.prog 49 #[.int .i64 n] w fun e w' => (∃ t : ByteArray, e = .returned (.string t) ∧ t.size = n) ∧ w = w' := by
  have T := hide (fun wx => times_any ⟨#[32]⟩ n wx (by decide) hn)
  go_enter Tryz.func49, Tryz.ntmps49
  go_wp2_with (go_at_call 33; refine (T.out _).mono ?_; rintro e w1 ⟨⟨t, rfl, ht⟩, rfl⟩)
  go_ret
  exact ⟨⟨t, rfl, by rw [ht]; exact Nat.mul_one n⟩, rfl⟩
set_option maxHeartbeats 1000000 in
theorem decimal_one (n : Nat) (w : World) (hn : n < 10) : Calls Tryz.prog 50 #[.int .i64 n] w fun e w' => (∃ t : ByteArray, e = .returned (.string t) ∧ t.size ≤ 1) ∧ w = w' := by
  have h1 : (n : Int) < 10 := by omega
  have h2 : (n : Int) + 1 ≤ 10 := by omega
  go_enter Tryz.func50, Tryz.ntmps50
  go_wp2
  go_ret
  exact ⟨⟨_, rfl, by rw [ByteArray.size_extract]; omega⟩, rfl⟩
set_option maxHeartbeats 1000000 in
theorem decimal_any (n : Nat) (w : World) (hn : n < 100) : Calls Tryz.prog 50 #[.int .i64 n] w fun e w' => (∃ t : ByteArray, e = .returned (.string t) ∧ t.size ≤ 2) ∧ w = w' := by
  by_cases h1 : n < 10
  · refine (decimal_one n w h1).mono ?_
    rintro e w' ⟨⟨t, rfl, ht⟩, rfl⟩
    exact ⟨⟨t, rfl, by omega⟩, rfl⟩
  · have D1 := hide (fun wx => decimal_one (n / 10) wx (by omega))
    have D2 := hide (fun wx => decimal_one (n % 10) wx (by omega))
    have h2 : ¬ ((n : Int) < 10) := by omega
    have e2 : (n : Int) / 10 = ((n / 10 : Nat) : Int) := by omega
    have e3 : (n : Int) % 10 = ((n % 10 : Nat) : Int) := by omega
    obtain ⟨a, ha⟩ : ∃ a, a = n / 10 := ⟨_, rfl⟩
    obtain ⟨b, hb⟩ : ∃ b, b = n % 10 := ⟨_, rfl⟩
    rw [← ha] at D1 e2
    rw [← hb] at D2 e3
    clear ha hb
    go_enter Tryz.func50, Tryz.ntmps50
    go_wp2_with (first | (go_at_call 50; with_reducible refine (D1.out _).mono ?_; rintro e w1 ⟨⟨t1, rfl, ht1⟩, rfl⟩; clear D1) | (go_at_call 50; with_reducible refine (D2.out _).mono ?_; rintro e w1 ⟨⟨t2, rfl, ht2⟩, rfl⟩; clear D2))
    go_ret
    exact ⟨⟨_, rfl, by rw [ByteArray.size_append]; omega⟩, rfl⟩
/-- Strings in a row, read. -/
def StrsR (w : World) (g o n M : Nat) : Prop := ∀ j, j < n → ∃ s : ByteArray, w.cell? ⟨g, o + j, none⟩ = some (.string s) ∧ s.size ≤ M
theorem Strs.read {B : Nat} {w : World} {g n cap M : Nat} (h : Strs B w (.slice (some ⟨g, 0, none⟩) n cap) n M) : StrsR w g 0 n M := by
  obtain ⟨ss, h1, h2, h3⟩ := h
  intro j hj
  have hc := h2.cells (g := g) rfl
  have hj2 : j < ss.length := by omega
  have h4 : (ss.map Value.string)[j]? = some (.string ss[j]) := by rw [List.getElem?_map, List.getElem?_eq_getElem hj2]; rfl
  have h5 := hc j _ h4
  rw [Addr.add_lit] at h5
  exact ⟨_, h5, h3 _ (List.getElem_mem hj2)⟩
theorem StrsR.tail {w : World} {g n M : Nat} (h : StrsR w g 0 (n + 1) M) : StrsR w g 1 n M := fun j hj => by
  have := h (1 + j) (by omega)
  rwa [Nat.zero_add] at this
set_option maxHeartbeats 1000000 in
theorem joined_any (g n cap M : Nat) (w : World) (hR : StrsR w g 0 n M) (hn : n ≤ 100000) (hM : M ≤ 1000) :
    Calls Tryz.prog 10 #[.slice (some ⟨g, 0, none⟩) n cap, .string ⟨#[10]⟩] w fun e w' => (∃ t : ByteArray, e = .returned (.string t) ∧ t.size ≤ n * (M + 1)) ∧ w = w' := by
  have HR := hide hR
  clear hR
  go_enter Tryz.func10, Tryz.ntmps10
  go_wp2
  go_loop [5, 10] (fun o kv => ∃ (k : Nat) (t : ByteArray), k ≤ n ∧ o = .string t ∧ kv = .int .i64 k ∧ Hid (t.size ≤ k * (M + 1)) ∧ t.size ≤ 1000000000) (fun _ kv => n - (intOf kv).toNat)
  case atStart => exact ⟨0, ByteArray.empty, by omega, rfl, rfl, by unfold Hid; rw [Nat.zero_mul]; exact Nat.le_refl _, by decide⟩
  case round =>
    obtain ⟨k, t, hk, rfl, rfl, ht, htz⟩ := hrel
    by_cases hlt : k < n
    · have hltI : (k : Int) < (n : Int) := by omega
      obtain ⟨s, hc, hs⟩ := HR.out k hlt
      rw [Nat.zero_add] at hc
      have hmul : Hid ((k + 1) * (M + 1) = k * (M + 1) + (M + 1)) := Nat.succ_mul _ _
      have hbd : Hid ((k + 1) * (M + 1) ≤ 100000 * 1001) := Nat.mul_le_mul (by omega) (by omega)
      by_cases h0 : k = 0
      · have h0I : ¬ ((0 : Int) < (k : Int)) := by omega
        have H0 := hide h0
        clear h0
        go_wp2
        go_round
        case rel => exact ⟨k + 1, _, by omega, rfl, by go_num, by unfold Hid; rw [ByteArray.size_append, hmul.out]; have := ht.out; omega, by rw [ByteArray.size_append]; have := hmul.out; have := hbd.out; have := ht.out; omega⟩
        case measure => simp [intOf]; omega
      · have h0I : (0 : Int) < (k : Int) := by omega
        have H0 := hide h0
        clear h0
        go_wp2
        go_round
        case rel => exact ⟨k + 1, _, by omega, rfl, by go_num, by unfold Hid; rw [ByteArray.size_append, ByteArray.size_append, hmul.out]; have := ht.out; show _ + 1 + _ ≤ _; omega, by rw [ByteArray.size_append, ByteArray.size_append]; have := hmul.out; have := hbd.out; have := ht.out; show _ + 1 + _ ≤ _; omega⟩
        case measure => simp [intOf]; omega
    · obtain rfl : k = n := by omega
      have hltI : ¬ ((k : Int) < (k : Int)) := by omega
      go_wp2
      go_ret
      exact ⟨⟨t, rfl, ht.out⟩, rfl⟩
/-- What indented gives. -/
def IndP (n M : Nat) (w : World) (e : Ending) (w' : World) : Prop := ∃ tv, e = .returned tv ∧ Strs w.heap.size w' tv n M ∧ (n = 0 → tv = .slice none 0 0) ∧ Below w.heap.size w w'
set_option maxHeartbeats 2000000 in
set_option maxRecDepth 100000 in
theorem indented_any (p : ByteArray) (g o n cap M : Nat) (w : World) (hR : StrsR w g o n M) (hp : p.size ≤ 10) (hn : n ≤ 100000) (hM : M ≤ 1000) (hg : 0 < n → g < w.heap.size) :
    Calls Tryz.prog 51 #[.string p, .slice (some ⟨g, o, none⟩) n cap] w (IndP n (M + 10) w) := by
  have HR := hide hR
  have HG := hide hg
  obtain ⟨i0, hi0, hz0, hz1, hz2⟩ := info_parts info_str
  clear hR hg
  go_enter Tryz.func51, Tryz.ntmps51
  go_wp2
  go_loopw [5, 10] (fun tv kv wr => ∃ k : Nat, k ≤ n ∧ kv = .int .i64 k ∧ Hid (Strs w.heap.size wr tv k (M + 10) ∧ (k = 0 → tv = .slice none 0 0)) ∧ Below w.heap.size w wr) (fun _ kv _ => n - (intOf kv).toNat)
  case atStart => exact ⟨0, by omega, rfl, ⟨Strs.nil _ _ _, fun _ => rfl⟩, Below.refl _ _⟩
  case round =>
    obtain ⟨k, hk, rfl, H, hBe⟩ := hrel
    by_cases hlt : k < n
    · have hltI : (k : Int) < (n : Int) := by omega
      obtain ⟨s, hc, hs⟩ := HR.out k hlt
      have hc2 : wr.cell? ⟨g, o + k, none⟩ = some (.string s) := (hBe.cell (p := ⟨g, o + k, none⟩) (HG.out (by omega))).trans hc
      clear hc
      obtain ⟨⟨ss, s1, s2, s3⟩, h0⟩ := H.out
      have S1 := hide s1
      have S2 := hide s2
      have S3 := hide s3
      have hsz := hBe.size
      clear H s1 s2 s3 h0
      obtain ⟨x, hx⟩ : ∃ x : ByteArray, x = if s.size = 0 then s else p ++ s := ⟨_, rfl⟩
      have hxs : x.size ≤ M + 10 := by rw [hx]; split <;> (try rw [ByteArray.size_append]) <;> omega
      by_cases he : s.size = 0
      · have hx2 : Hid (x = s) := by unfold Hid; rw [hx, if_pos he]
        have he2 := empty_of he
        have hse : s = ⟨#[]⟩ := ByteArray.ext (Array.eq_empty_of_size_eq_zero he)
        subst hse
        clear hx he he2
        go_wp2_with (at_builtin; refine wpList_append_lies _ rfl (.tmp 19) (.tmp 21) 40 rfl w.heap.size 9 i0 (.string ⟨#[]⟩) 1 16 Tryz.underlying40 hi0 hz0 hz1 hz2 rfl (by decide) _ k (ss.map .string) rfl (S2.out.alloc _) ⟨wr.heap.size, 0, none⟩ 1 1 [.string ⟨#[]⟩] rfl rfl (cellOne _ _ _) (by simp [Value.oneCell']) (by omega) (by unfold maxLen; omega) (by omega) (by rw [World.size_alloc']; omega) (wr.heap.size + 1) (by simp) ?_; intro g2 cap2 w5 hown2 hg2 hat2 hlt2; have P5 : Hid (Strs w.heap.size w5 (.slice (some ⟨g2, 0, none⟩) (k + 1) cap2) (k + 1) (M + 10)) := ⟨ss ++ [⟨#[]⟩], by rw [List.length_append, S1.out]; rfl, by rw [List.map_append]; exact hown2, fun q hq => by (rcases List.mem_append.1 hq with h | h); exact S3.out q h; (have : q = ⟨#[]⟩ := by simpa using h); rw [this]; exact Nat.zero_le _⟩; have hb2 : Below w.heap.size w w5 := (hBe.alloc hsz _).grown hg2 (by rw [World.size_alloc']; omega) (fun q hq => (S2.out.lt q hq).1); clear hown2 hg2 hat2 hlt2)
        go_roundw
        case rel => exact ⟨k + 1, by omega, by go_num, ⟨P5.out, fun h => absurd h (by omega)⟩, hb2⟩
        case measure => simp [intOf]; omega
      · have hx2 : Hid (x = p ++ s) := by unfold Hid; rw [hx, if_neg he]
        have he2 := nonempty_of (s := s) (by omega)
        clear hx he
        have hps : (p ++ s).size = p.size + s.size := ByteArray.size_append
        go_wp2_with (at_builtin; refine wpList_append_lies _ rfl (.tmp 19) (.tmp 21) 40 rfl w.heap.size 9 i0 (.string ⟨#[]⟩) 1 16 Tryz.underlying40 hi0 hz0 hz1 hz2 rfl (by decide) _ k (ss.map .string) rfl (S2.out.alloc _) ⟨wr.heap.size, 0, none⟩ 1 1 [.string (p ++ s)] rfl rfl (cellOne _ _ _) (by simp [Value.oneCell']) (by omega) (by unfold maxLen; omega) (by omega) (by rw [World.size_alloc']; omega) (wr.heap.size + 1) (by simp) ?_; intro g2 cap2 w5 hown2 hg2 hat2 hlt2; have P5 : Hid (Strs w.heap.size w5 (.slice (some ⟨g2, 0, none⟩) (k + 1) cap2) (k + 1) (M + 10)) := ⟨ss ++ [p ++ s], by rw [List.length_append, S1.out]; rfl, by rw [List.map_append]; exact hown2, fun q hq => by (rcases List.mem_append.1 hq with h | h); exact S3.out q h; (have : q = p ++ s := by simpa using h); rw [this]; rw [← hx2.out]; exact hxs⟩; have hb2 : Below w.heap.size w w5 := (hBe.alloc hsz _).grown hg2 (by rw [World.size_alloc']; omega) (fun q hq => (S2.out.lt q hq).1); clear hown2 hg2 hat2 hlt2)
        go_roundw
        case rel => exact ⟨k + 1, by omega, by go_num, ⟨P5.out, fun h => absurd h (by omega)⟩, hb2⟩
        case measure => simp [intOf]; omega
    · obtain rfl : k = n := by omega
      have hltI : ¬ ((k : Int) < (k : Int)) := by omega
      go_wp2
      go_ret
      exact ⟨_, rfl, H.out.1, H.out.2, hBe⟩
end Go.Proofs.YtipniinmajoolaaGreatDoor
