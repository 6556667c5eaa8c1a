/- The walk of FnMerge. Conditions: none but the form's own. -/
import Derived.Test.YtecccieeikmfeaaGreatMrg9
import Derived.Test.YtecccieeikmfeaaGreatMrgE
namespace Go.Proofs.YtecccieeikmfeaaGreat
open Go.RowKit
abbrev cells4 (a b c : ByteArray) : Array Value := (#[.int .i64 20, .string a, .string ⟨#[]⟩, .int .i64 0, .string ⟨#[]⟩, .bool false, .slice none 0 0, .slice none 0 0, .int .i64 0, .int .i64 0, .string ⟨#[]⟩, .int .i64 0, .bool false, .bool false, .bool false, .slice none 0 0, .int .i64 20, .string b, .string ⟨#[]⟩, .int .i64 0, .string ⟨#[]⟩, .bool false, .slice none 0 0, .slice none 0 0, .int .i64 0, .int .i64 0, .string ⟨#[]⟩, .int .i64 0, .bool false, .bool false, .bool false, .slice none 0 0, .int .i64 23, .string b, .string ⟨#[]⟩, .int .i64 0, .string ⟨#[]⟩, .bool false, .slice none 0 0, .slice none 0 0, .int .i64 0, .int .i64 0, .string ⟨#[]⟩, .int .i64 0, .bool false, .bool false, .bool false, .slice none 0 0, .int .i64 20, .string c, .string ⟨#[]⟩, .int .i64 0, .string ⟨#[]⟩, .bool false, .slice none 0 0, .slice none 0 0, .int .i64 0, .int .i64 0, .string ⟨#[]⟩, .int .i64 0, .bool false, .bool false, .bool false, .slice none 0 0] : Array Value)
theorem own4 (a b c : ByteArray) (w : World) : (w.alloc (.cells (cells4 a b c) 26)).ownsRow w.heap.size 26 16 (.slice (some ⟨w.heap.size, 0, none⟩) 4 4) 4 (flatQ ps5 (xs5 a b c) 4) :=
  ⟨flatQ_len _ _ _, .inr ⟨w.heap.size, 4, cells4 a b c, rfl, Nat.le_refl _, heap_alloc_new w _, Nat.le_refl _, by unfold maxLen; omega, rfl, rfl⟩⟩
theorem kinds3 {w : World} {g : Nat} {xs : Nat → ByteArray} (h : NodesAt w g 3 ps3 xs) : w.cell? ⟨g, 0, none⟩ = some (.int .i64 20) ∧ w.cell? ⟨g, 16, none⟩ = some (.int .i64 23) ∧ w.cell? ⟨g, 32, none⟩ = some (.int .i64 20) :=
  ⟨h.kind (k := 0) (by omega), h.kind (k := 1) (by omega), h.kind (k := 2) (by omega)⟩
theorem merge_len (r n cap : Nat) (ps : Nat → Bool) (xs : Nat → ByteArray) (d b e : ByteArray) (w : World) (hn : n ≤ 10) (hn0 : 0 < n) (hr : NodesAt w r n ps xs) (hx : ∀ k, k < n → (xs k).size ≤ 10000) (ho : mergedL ps xs n = [(true, d), (false, b), (true, e)]) :
    Calls Tryz.prog 4 #[.slice (some ⟨r, 0, none⟩) n cap] w fun e' w' => ∃ g cap2 : Nat, e' = .returned (.slice (some ⟨g, 0, none⟩) 3 cap2) ∧ Below w.heap.size w w' :=
  (merge_three r n cap ps xs d b e w hn hn0 hr hx ho).mono fun _ _ ⟨g, cap2, h1, _, _, _, h5⟩ => ⟨g, cap2, h1, h5⟩
set_option maxHeartbeats 4000000 in
set_option maxRecDepth 100000 in
theorem merge_four (a b c : ByteArray) (w : World) (hs : a.size + b.size + c.size ≤ 1000) :
    Calls Tryz.prog 3 #[.string a, .string b, .string c, .bool false] w fun e w' => e = .returned (.bool true) ∧ Below w.heap.size w w' := by
  have hab : (a ++ b).size = a.size + b.size := ByteArray.size_append
  have hca : (c ++ a).size = c.size + a.size := ByteArray.size_append
  obtain ⟨A, hA⟩ : ∃ A, A = escF (a ++ b) (a ++ b).size := ⟨_, rfl⟩
  obtain ⟨B, hB⟩ : ∃ B, B = escF b b.size := ⟨_, rfl⟩
  obtain ⟨C, hC⟩ : ∃ C, C = escF c c.size := ⟨_, rfl⟩
  obtain ⟨D, hD⟩ : ∃ D, D = escF a a.size := ⟨_, rfl⟩
  have E1 : Hid (∀ wx : World, Calls Tryz.prog 5 #[.string (a ++ b)] wx fun e w' => e = .returned (.string A) ∧ wx = w') := fun wx => by rw [hA]; exact escS_any (a ++ b) wx (by omega)
  have E2 : Hid (∀ wx : World, Calls Tryz.prog 5 #[.string b] wx fun e w' => e = .returned (.string B) ∧ wx = w') := fun wx => by rw [hB]; exact escS_any b wx (by omega)
  have E3 : Hid (∀ wx : World, Calls Tryz.prog 5 #[.string c] wx fun e w' => e = .returned (.string C) ∧ wx = w') := fun wx => by rw [hC]; exact escS_any c wx (by omega)
  have E4 : Hid (∀ wx : World, Calls Tryz.prog 5 #[.string a] wx fun e w' => e = .returned (.string D) ∧ wx = w') := fun wx => by rw [hD]; exact escS_any a wx (by omega)
  have z1 : A.size ≤ 6000 := by have := esc_le (a ++ b) (a ++ b).size; rw [hA]; omega
  have z2 : B.size ≤ 6000 := by have := esc_le b b.size; rw [hB]; omega
  have z3 : C.size ≤ 6000 := by have := esc_le c c.size; rw [hC]; omega
  have z4 : D.size ≤ 6000 := by have := esc_le a a.size; rw [hD]; omega
  have zz : ((⟨#[60, 99, 111, 100, 101, 62]⟩ : ByteArray)).size = 6 ∧ ((⟨#[60, 47, 99, 111, 100, 101, 62]⟩ : ByteArray)).size = 7 := ⟨rfl, rfl⟩
  have HL := hide (own4 a b c w)
  have X5 := hide (fun k (_ : k < 4) => xs5_le (a := a) (b := b) (c := c) (by omega) (by omega) (by omega) k)
  have X3 := hide (fun k (_ : k < 3) => xs3_le (d := a ++ b) (b := b) (e := c) (by omega) (by omega) (by omega) k)
  have M4 := hide (merged4 a b c)
  have M3 := hide (merged3 (a ++ b) b c)
  have T4 := html4 a b c
  have T3 := html3 (a ++ b) b c
  simp only [← hA, ← hB, ← hC] at T4 T3
  replace T4 := hide T4
  replace T3 := hide T3
  clear hA hB hC hD
  have N4 := hide (nodes_of_own (own4 a b c w)).2.2
  have C1 := hide (merge_three w.heap.size 4 4 ps5 (xs5 a b c) (a ++ b) b c (w.alloc (.cells (cells4 a b c) 26)) (by omega) (by omega) N4.out X5.out M4.out)
  clear hab hca
  go_enter Tryz.func3, Tryz.ntmps3
  go_wp2_with (first | (go_at_call 4; refine C1.out.mono ?_; rintro e w3 ⟨g3, cap3, rfl, hc3, hm3, hN3, hb3⟩; have N3 := hide hN3; clear hN3))
  obtain ⟨q0, q1, q2⟩ := kinds3 N3.out
  have NL := hide (N4.out.below hb3)
  have H1 := hide (implHTML_any g3 3 cap3 ps3 (xs3 (a ++ b) b c) w3 (by omega) (by omega) N3.out X3.out)
  rw [T3.out] at H1
  go_loop [11] (fun kv => ∃ k : Nat, 1 ≤ k ∧ k ≤ 3 ∧ kv = .int .i64 k) (fun kv => 3 - (intOf kv).toNat)
  case atStart => exact ⟨1, by omega, by omega, rfl⟩
  case round =>
    obtain ⟨k, hk1, hk3, rfl⟩ := hrel
    rcases (by omega : k = 1 ∨ k = 2 ∨ k = 3) with rfl | rfl | rfl
    · go_wp2
      go_round
      case rel => exact ⟨2, by omega, by omega, rfl⟩
      case measure => simp [intOf]
    · go_wp2
      go_round
      case rel => exact ⟨3, by omega, by omega, rfl⟩
      case measure => simp [intOf]
    · go_wp2_with (first | (go_at_call 5; with_reducible refine (E1.out _).mono ?_; rintro e w' ⟨rfl, rfl⟩) | (go_at_call 5; with_reducible refine (E2.out _).mono ?_; rintro e w' ⟨rfl, rfl⟩) | (go_at_call 5; with_reducible refine (E3.out _).mono ?_; rintro e w' ⟨rfl, rfl⟩) | (go_at_call 5; with_reducible refine (E4.out _).mono ?_; rintro e w' ⟨rfl, rfl⟩) | (go_at_call 6; with_reducible refine H1.out.mono ?_; rintro e w4 ⟨rfl, hb4⟩; have H2 := hide (implHTML_any w.heap.size 4 4 ps5 (xs5 a b c) w4 (by omega) (by omega) (NL.out.below hb4) X5.out); rw [T4.out] at H2) | (go_at_call 6; with_reducible refine H2.out.mono ?_; rintro e w5 ⟨rfl, hb5⟩; have C2 := hide (merge_len g3 3 cap3 ps3 (xs3 (a ++ b) b c) (a ++ b) b c w5 (by omega) (by omega) ((N3.out.below hb4).below hb5) X3.out M3.out)) | (go_at_call 4; refine C2.out.mono ?_; rintro e w6 ⟨g6, cap6, rfl, hb6⟩))
      go_ret
      have s3 := hb3.size
      have s4 := hb4.size
      have s5 := hb5.size
      rw [World.size_alloc'] at s3
      exact ⟨rfl, (((((Below.refl w.heap.size w).alloc (Nat.le_refl _) _).trans (hb3.mono (by rw [World.size_alloc']; omega))).trans (hb4.mono (by omega))).trans (hb5.mono (by omega))).trans (hb6.mono (by omega))⟩
set_option maxHeartbeats 4000000 in
set_option maxRecDepth 100000 in
theorem merge_five (a b c : ByteArray) (w : World) (hs : a.size + b.size + c.size ≤ 1000) :
    Calls Tryz.prog 3 #[.string a, .string b, .string c, .bool true] w fun e w' => e = .returned (.bool true) ∧ Below w.heap.size w w' := by
  have hab : (a ++ b).size = a.size + b.size := ByteArray.size_append
  have hca : (c ++ a).size = c.size + a.size := ByteArray.size_append
  obtain ⟨A, hA⟩ : ∃ A, A = escF (a ++ b) (a ++ b).size := ⟨_, rfl⟩
  obtain ⟨B, hB⟩ : ∃ B, B = escF b b.size := ⟨_, rfl⟩
  obtain ⟨C, hC⟩ : ∃ C, C = escF c c.size := ⟨_, rfl⟩
  obtain ⟨D, hD⟩ : ∃ D, D = escF a a.size := ⟨_, rfl⟩
  have E1 : Hid (∀ wx : World, Calls Tryz.prog 5 #[.string (a ++ b)] wx fun e w' => e = .returned (.string A) ∧ wx = w') := fun wx => by rw [hA]; exact escS_any (a ++ b) wx (by omega)
  have E2 : Hid (∀ wx : World, Calls Tryz.prog 5 #[.string b] wx fun e w' => e = .returned (.string B) ∧ wx = w') := fun wx => by rw [hB]; exact escS_any b wx (by omega)
  have E3 : Hid (∀ wx : World, Calls Tryz.prog 5 #[.string c] wx fun e w' => e = .returned (.string C) ∧ wx = w') := fun wx => by rw [hC]; exact escS_any c wx (by omega)
  have E4 : Hid (∀ wx : World, Calls Tryz.prog 5 #[.string a] wx fun e w' => e = .returned (.string D) ∧ wx = w') := fun wx => by rw [hD]; exact escS_any a wx (by omega)
  have z1 : A.size ≤ 6000 := by have := esc_le (a ++ b) (a ++ b).size; rw [hA]; omega
  have z2 : B.size ≤ 6000 := by have := esc_le b b.size; rw [hB]; omega
  have z3 : C.size ≤ 6000 := by have := esc_le c c.size; rw [hC]; omega
  have z4 : D.size ≤ 6000 := by have := esc_le a a.size; rw [hD]; omega
  have zz : ((⟨#[60, 99, 111, 100, 101, 62]⟩ : ByteArray)).size = 6 ∧ ((⟨#[60, 47, 99, 111, 100, 101, 62]⟩ : ByteArray)).size = 7 := ⟨rfl, rfl⟩
  have HL := hide (own4 a b c w)
  have X5 := hide (fun k (_ : k < 5) => xs5_le (a := a) (b := b) (c := c) (by omega) (by omega) (by omega) k)
  have X3 := hide (fun k (_ : k < 3) => xs3_le (d := a ++ b) (b := b) (e := (c ++ a)) (by omega) (by omega) (by omega) k)
  have M5 := hide (merged5 a b c)
  have M3 := hide (merged3 (a ++ b) b (c ++ a))
  have T5 := html5 a b c
  have T3 := html3b (a ++ b) b c a
  simp only [← hA, ← hB, ← hC, ← hD] at T5 T3
  replace T5 := hide T5
  replace T3 := hide T3
  clear hA hB hC hD
  obtain ⟨i0, hi0, hz0, hz1, hz2⟩ := info_parts info_node3
  clear hab hca
  go_enter Tryz.func3, Tryz.ntmps3
  go_wp2_with (first | (at_builtin; refine wpList_append_lies _ rfl (.tmp 45) (.tmp 48) 23 rfl w.heap.size 26 i0 (.agg (nodeCs 0 ⟨#[]⟩)) 16 192 Tryz.underlying23 hi0 hz0 hz1 hz2 rfl (by decide) _ 4 (flatQ ps5 (xs5 a b c) 4) rfl (HL.out.alloc _) ⟨w.heap.size + 1, 0, none⟩ 1 1 (nodeCs 20 a).toList rfl rfl (World.news_of_block (cs := nodeCs 20 a) (new2 _ _ _)) (nodeCs_one 20 a) (by omega) (by unfold maxLen; omega) (by omega) (by rw [World.size_alloc', World.size_alloc']; omega) _ rfl ?_; intro g9 cap9 w9 hown9 hg9 hat9 hlt9; have N5 := hide (nodes_of_own (ps := ps5) (xs := xs5 a b c) (n := 5) hown9).2.2; have hb9 : Below w.heap.size w w9 := (((Below.refl _ _).alloc (Nat.le_refl _) _).alloc (by rw [World.size_alloc']; omega) _).grown hg9 (by rw [World.size_alloc', World.size_alloc']; omega) (fun k hk => by have h9 : some w.heap.size = some k := hk; injection h9; omega); have C1 := hide (merge_three g9 5 cap9 ps5 (xs5 a b c) (a ++ b) b (c ++ a) w9 (by omega) (by omega) N5.out X5.out M5.out); clear hown9 hg9 hat9) | (go_at_call 4; refine C1.out.mono ?_; rintro e w3 ⟨g3, cap3, rfl, hc3, hm3, hN3, hb3⟩; have N3 := hide hN3; clear hN3))
  obtain ⟨q0, q1, q2⟩ := kinds3 N3.out
  have NL := hide (N5.out.below hb3)
  have H1 := hide (implHTML_any g3 3 cap3 ps3 (xs3 (a ++ b) b (c ++ a)) w3 (by omega) (by omega) N3.out X3.out)
  rw [T3.out] at H1
  go_loop [11] (fun kv => ∃ k : Nat, 1 ≤ k ∧ k ≤ 3 ∧ kv = .int .i64 k) (fun kv => 3 - (intOf kv).toNat)
  case atStart => exact ⟨1, by omega, by omega, rfl⟩
  case round =>
    obtain ⟨k, hk1, hk3, rfl⟩ := hrel
    rcases (by omega : k = 1 ∨ k = 2 ∨ k = 3) with rfl | rfl | rfl
    · go_wp2
      go_round
      case rel => exact ⟨2, by omega, by omega, rfl⟩
      case measure => simp [intOf]
    · go_wp2
      go_round
      case rel => exact ⟨3, by omega, by omega, rfl⟩
      case measure => simp [intOf]
    · go_wp2_with (first | (go_at_call 5; with_reducible refine (E1.out _).mono ?_; rintro e w' ⟨rfl, rfl⟩) | (go_at_call 5; with_reducible refine (E2.out _).mono ?_; rintro e w' ⟨rfl, rfl⟩) | (go_at_call 5; with_reducible refine (E3.out _).mono ?_; rintro e w' ⟨rfl, rfl⟩) | (go_at_call 5; with_reducible refine (E4.out _).mono ?_; rintro e w' ⟨rfl, rfl⟩) | (go_at_call 6; with_reducible refine H1.out.mono ?_; rintro e w4 ⟨rfl, hb4⟩; have H2 := hide (implHTML_any g9 5 cap9 ps5 (xs5 a b c) w4 (by omega) (by omega) (NL.out.below hb4) X5.out); rw [T5.out] at H2) | (go_at_call 6; with_reducible refine H2.out.mono ?_; rintro e w5 ⟨rfl, hb5⟩; have C2 := hide (merge_len g3 3 cap3 ps3 (xs3 (a ++ b) b (c ++ a)) (a ++ b) b (c ++ a) w5 (by omega) (by omega) ((N3.out.below hb4).below hb5) X3.out M3.out)) | (go_at_call 4; refine C2.out.mono ?_; rintro e w6 ⟨g6, cap6, rfl, hb6⟩))
      go_ret
      have s3 := hb3.size
      have s4 := hb4.size
      have s5 := hb5.size
      have s9 := hb9.size
      exact ⟨rfl, (((hb9.trans (hb3.mono (by omega))).trans (hb4.mono (by omega))).trans (hb5.mono (by omega))).trans (hb6.mono (by omega))⟩
set_option maxHeartbeats 1000000 in
set_option maxRecDepth 100000 in
theorem merge_walk (a b c : ByteArray) (m : Bool) (w : World) :
    Calls Tryz.prog 3 #[.string a, .string b, .string c, .bool m] w fun e w' => e = .returned (.bool true) ∧ Below w.heap.size w w' := by
  by_cases z0 : 2147483647 < (a.size : Int)
  · go_enter Tryz.func3, Tryz.ntmps3
    go_wp2
    go_ret
    exact ⟨rfl, Below.refl _ _⟩
  by_cases z1 : 2147483647 < (b.size : Int)
  · go_enter Tryz.func3, Tryz.ntmps3
    go_wp2
    go_ret
    exact ⟨rfl, Below.refl _ _⟩
  by_cases z2 : 2147483647 < (c.size : Int)
  · go_enter Tryz.func3, Tryz.ntmps3
    go_wp2
    go_ret
    exact ⟨rfl, Below.refl _ _⟩
  by_cases hs : a.size + b.size + c.size ≤ 1000
  · cases m
    · exact merge_four a b c w hs
    · exact merge_five a b c w hs
  · have hsI : 1000 < (a.size : Int) + b.size + c.size := by omega
    clear hs
    go_enter Tryz.func3, Tryz.ntmps3
    go_wp2
    go_ret
    exact ⟨rfl, Below.refl _ _⟩
end Go.Proofs.YtecccieeikmfeaaGreat
