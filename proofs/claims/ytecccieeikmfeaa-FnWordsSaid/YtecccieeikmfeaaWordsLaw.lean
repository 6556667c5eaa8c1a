/- The walk of FnWords. Conditions: none but the form's own. -/
import Derived.Test.YtecccieeikmfeaaWords5
import Derived.Test.YtecccieeikmfeaaEscS
namespace Go.Proofs.Ytecccieeikmfeaa
open Go.RowKit
abbrev UnmT (s : ByteArray) : Prop := ∀ wx : World, Calls Try.prog 4 #[.string s] wx fun e w' => e = .returned (.bool true) ∧ wx = w'
abbrev UnmF (s : ByteArray) : Prop := ∀ wx : World, Calls Try.prog 4 #[.string s] wx fun e w' => e = .returned (.bool false) ∧ wx = w'
def unmB (s : ByteArray) : Bool := printB s 200 && ((escF s s.size).toList == s.toList)
theorem unm_yes {s : ByteArray} (hs : s.size ≤ maxLen) (h : unmB s = true) : UnmT s := fun wx => (unmarked_any s wx hs).mono fun e w' q => by
  unfold unmB at h; rw [h] at q; exact q
theorem unm_no {s : ByteArray} (hs : s.size ≤ maxLen) (h : unmB s = false) : UnmF s := fun wx => (unmarked_any s wx hs).mono fun e w' q => by
  unfold unmB at h; rw [h] at q; exact q
theorem eq_of_list {a b : ByteArray} (h : (a.toList == b.toList) = true) : a = b := by
  have h' : a.toList = b.toList := by simpa using h
  rw [Lib.toList_data, Lib.toList_data] at h'
  exact ByteArray.ext (Array.toList_inj.1 h')
theorem unm_parts {s : ByteArray} (h : unmB s = true) : s.size ≤ 200 ∧ escF s s.size = s := by
  unfold unmB at h
  rw [Bool.and_eq_true] at h
  refine ⟨?_, eq_of_list h.2⟩
  have h1 := h.1
  unfold printB at h1
  rw [Bool.and_eq_true] at h1
  have := of_decide_eq_true h1.1
  omega
theorem out_text {a b c d : ByteArray} (ha : escF a a.size = a) (hb : escF b b.size = b) (hc : escF c c.size = c) (hd : escF d d.size = d) : catY (outY a b c d) 3 = a ++ b ++ c ++ d := by
  show ((ByteArray.empty ++ escF a a.size) ++ ((ByteArray.empty ++ escF b b.size) ++ escF c c.size)) ++ escF d d.size = _
  rw [ha, hb, hc, hd, ByteArray.empty_append, ByteArray.empty_append, ByteArray.append_assoc, ByteArray.append_assoc, ByteArray.append_assoc, ByteArray.append_assoc]
theorem rem_three (a4 : Int) : (IntKind.u64.wrap a4).tmod 3 = 0 ∨ (IntKind.u64.wrap a4).tmod 3 = 1 ∨ (IntKind.u64.wrap a4).tmod 3 = 2 := by
  have h0 : 0 ≤ IntKind.u64.wrap a4 := by
    rw [IntKind.wrap_u64]; omega
  rw [Int.tmod_eq_emod_of_nonneg h0]
  omega
theorem al3 (w : World) (A B C : Obj) : (((w.alloc A).alloc B).alloc C).heap[w.heap.size]? = some A ∧ (((w.alloc A).alloc B).alloc C).heap[w.heap.size + 1 + 1]? = some C := by
  refine ⟨?_, ?_⟩
  · rw [Below.heap_alloc _ _ _ (by simp; omega), Below.heap_alloc _ _ _ (by simp)]; exact heap_alloc_new w A
  · have h := heap_alloc_new ((w.alloc A).alloc B) C
    rw [World.size_alloc', World.size_alloc'] at h
    exact h
theorem kd_rows (kd : Int) (a d : ByteArray) (r0 : Nat) : (#[.int .i64 20, .string a, .string ⟨#[]⟩, .int .i64 0, .string ⟨#[]⟩, .bool false, .slice none 0 0, .slice none 0 0, .int .i64 0, .int .i64 0, .string ⟨#[]⟩, .int .i64 0, .bool false, .bool false, .bool false, .slice none 0 0,
  .int .i64 kd, .string ⟨#[]⟩, .string ⟨#[]⟩, .int .i64 0, .string ⟨#[]⟩, .bool false, .slice none 0 0, .slice (some ⟨r0, 0, none⟩) 2 2, .int .i64 0, .int .i64 0, .string ⟨#[42]⟩, .int .i64 0, .bool false, .bool false, .bool false, .slice none 0 0,
  .int .i64 20, .string d, .string ⟨#[]⟩, .int .i64 0, .string ⟨#[]⟩, .bool false, .slice none 0 0, .slice none 0 0, .int .i64 0, .int .i64 0, .string ⟨#[]⟩, .int .i64 0, .bool false, .bool false, .bool false, .slice none 0 0] : Array Value) = nodeCs 20 a ++ nodeKs kd r0 ++ nodeCs 20 d := by simp
theorem kd_in (b c : ByteArray) : (#[.int .i64 20, .string b, .string ⟨#[]⟩, .int .i64 0, .string ⟨#[]⟩, .bool false, .slice none 0 0, .slice none 0 0, .int .i64 0, .int .i64 0, .string ⟨#[]⟩, .int .i64 0, .bool false, .bool false, .bool false, .slice none 0 0,
  .int .i64 23, .string c, .string ⟨#[]⟩, .int .i64 0, .string ⟨#[]⟩, .bool false, .slice none 0 0, .slice none 0 0, .int .i64 0, .int .i64 0, .string ⟨#[]⟩, .int .i64 0, .bool false, .bool false, .bool false, .slice none 0 0] : Array Value) = nodeCs 20 b ++ nodeCs 23 c := by simp
set_option maxHeartbeats 1000000 in
set_option maxRecDepth 100000 in
theorem words_main (a0 a1 a2 a3 : ByteArray) (a4 : Int) (w : World) (hw0 : a0.size ≤ maxLen) (hw1 : a1.size ≤ maxLen) (hw2 : a2.size ≤ maxLen) (hw3 : a3.size ≤ maxLen) (u0 : unmB a0 = true) (u1 : unmB a1 = true) (u2 : unmB a2 = true) (u3 : unmB a3 = true) :
    Calls Try.prog 3 #[.string a0, .string a1, .string a2, .string a3, .int .i64 a4] w fun e w' => e = .returned (.bool true) ∧ Below w.heap.size w w' := by
  have U0 := hide (unm_yes hw0 u0)
  have U1 := hide (unm_yes hw1 u1)
  have U2 := hide (unm_yes hw2 u2)
  have U3 := hide (unm_yes hw3 u3)
  obtain ⟨h0, e0⟩ := unm_parts u0
  obtain ⟨h1, e1⟩ := unm_parts u1
  obtain ⟨h2, e2⟩ := unm_parts u2
  obtain ⟨h3, e3⟩ := unm_parts u3
  have T := hide (out_text e0 e1 e2 e3)
  have hq := rem_three a4
  clear u0 u1 u2 u3 e0 e1 e2 e3 hw0 hw1 hw2 hw3
  rcases hq with hq | hq | hq
  · go_enter Try.func3, Try.ntmps3
    go_wp2_with (first | (go_at_call 4; with_reducible refine (U0.out _).mono ?_; rintro e w' ⟨rfl, rfl⟩) | (go_at_call 4; with_reducible refine (U1.out _).mono ?_; rintro e w' ⟨rfl, rfl⟩) | (go_at_call 4; with_reducible refine (U2.out _).mono ?_; rintro e w' ⟨rfl, rfl⟩) | (go_at_call 4; with_reducible refine (U3.out _).mono ?_; rintro e w' ⟨rfl, rfl⟩) | (go_at_call 5; refine (inlText_any 24 (by decide) (w.heap.size + 1 + 1) w.heap.size a0 a1 a2 a3 _ (by omega) (by omega) (by omega) (by omega) (out_rows 24 a0 a3 w.heap.size (kd_rows 24 a0 a3 w.heap.size) (al3 w _ _ _).2) (by simp) (in_rows a1 a2 (kd_in a1 a2) (al3 w _ _ _).1) (by simp; omega)).mono ?_; rintro e w1 ⟨rfl, hb1⟩))
    go_ret
    exact ⟨ret_bool (by rw [T.out]; simp), ((((Below.refl _ _).alloc (Nat.le_refl _) _).alloc (by simp) _).alloc (by simp; omega) _).trans (hb1.mono (by simp; omega))⟩
  · go_enter Try.func3, Try.ntmps3
    go_wp2_with (first | (go_at_call 4; with_reducible refine (U0.out _).mono ?_; rintro e w' ⟨rfl, rfl⟩) | (go_at_call 4; with_reducible refine (U1.out _).mono ?_; rintro e w' ⟨rfl, rfl⟩) | (go_at_call 4; with_reducible refine (U2.out _).mono ?_; rintro e w' ⟨rfl, rfl⟩) | (go_at_call 4; with_reducible refine (U3.out _).mono ?_; rintro e w' ⟨rfl, rfl⟩) | (go_at_call 5; refine (inlText_any 25 (by decide) (w.heap.size + 1 + 1) w.heap.size a0 a1 a2 a3 _ (by omega) (by omega) (by omega) (by omega) (out_rows 25 a0 a3 w.heap.size (kd_rows 25 a0 a3 w.heap.size) (al3 w _ _ _).2) (by simp) (in_rows a1 a2 (kd_in a1 a2) (al3 w _ _ _).1) (by simp; omega)).mono ?_; rintro e w1 ⟨rfl, hb1⟩))
    go_ret
    exact ⟨ret_bool (by rw [T.out]; simp), ((((Below.refl _ _).alloc (Nat.le_refl _) _).alloc (by simp) _).alloc (by simp; omega) _).trans (hb1.mono (by simp; omega))⟩
  · go_enter Try.func3, Try.ntmps3
    go_wp2_with (first | (go_at_call 4; with_reducible refine (U0.out _).mono ?_; rintro e w' ⟨rfl, rfl⟩) | (go_at_call 4; with_reducible refine (U1.out _).mono ?_; rintro e w' ⟨rfl, rfl⟩) | (go_at_call 4; with_reducible refine (U2.out _).mono ?_; rintro e w' ⟨rfl, rfl⟩) | (go_at_call 4; with_reducible refine (U3.out _).mono ?_; rintro e w' ⟨rfl, rfl⟩) | (go_at_call 5; refine (inlText_any 27 (by decide) (w.heap.size + 1 + 1) w.heap.size a0 a1 a2 a3 _ (by omega) (by omega) (by omega) (by omega) (out_rows 27 a0 a3 w.heap.size (kd_rows 27 a0 a3 w.heap.size) (al3 w _ _ _).2) (by simp) (in_rows a1 a2 (kd_in a1 a2) (al3 w _ _ _).1) (by simp; omega)).mono ?_; rintro e w1 ⟨rfl, hb1⟩))
    go_ret
    exact ⟨ret_bool (by rw [T.out]; simp), ((((Below.refl _ _).alloc (Nat.le_refl _) _).alloc (by simp) _).alloc (by simp; omega) _).trans (hb1.mono (by simp; omega))⟩
set_option maxHeartbeats 1000000 in
set_option maxRecDepth 100000 in
theorem words_walk (a0 a1 a2 a3 : ByteArray) (a4 : Int) (w0 : a0.size ≤ maxLen) (w1 : a1.size ≤ maxLen) (w2 : a2.size ≤ maxLen) (w3 : a3.size ≤ maxLen) (w : World) :
    Calls Try.prog 3 #[.string a0, .string a1, .string a2, .string a3, .int .i64 a4] w fun e w' => e = .returned (.bool true) ∧ Below w.heap.size w w' := by
  by_cases z0 : 2147483647 < (a0.size : Int)
  · clear w0 w1 w2 w3
    go_enter Try.func3, Try.ntmps3
    go_wp2
    go_ret
    exact ⟨rfl, Below.refl _ _⟩
  by_cases z1 : 2147483647 < (a1.size : Int)
  · clear w0 w1 w2 w3
    go_enter Try.func3, Try.ntmps3
    go_wp2
    go_ret
    exact ⟨rfl, Below.refl _ _⟩
  by_cases z2 : 2147483647 < (a2.size : Int)
  · clear w0 w1 w2 w3
    go_enter Try.func3, Try.ntmps3
    go_wp2
    go_ret
    exact ⟨rfl, Below.refl _ _⟩
  by_cases z3 : 2147483647 < (a3.size : Int)
  · clear w0 w1 w2 w3
    go_enter Try.func3, Try.ntmps3
    go_wp2
    go_ret
    exact ⟨rfl, Below.refl _ _⟩
  by_cases u0 : unmB a0 = true
  case neg =>
    have U0 := hide (unm_no w0 (by simpa using u0))
    clear u0 w0 w1 w2 w3
    go_enter Try.func3, Try.ntmps3
    go_wp2_with (first | (go_at_call 4; with_reducible refine (U0.out _).mono ?_; rintro e w' ⟨rfl, rfl⟩))
    go_ret
    exact ⟨rfl, Below.refl _ _⟩
  by_cases u1 : unmB a1 = true
  case neg =>
    have U0 := hide (unm_yes w0 u0)
    have U1 := hide (unm_no w1 (by simpa using u1))
    clear u0 u1 w0 w1 w2 w3
    go_enter Try.func3, Try.ntmps3
    go_wp2_with (first | (go_at_call 4; with_reducible refine (U0.out _).mono ?_; rintro e w' ⟨rfl, rfl⟩) | (go_at_call 4; with_reducible refine (U1.out _).mono ?_; rintro e w' ⟨rfl, rfl⟩))
    go_ret
    exact ⟨rfl, Below.refl _ _⟩
  by_cases u2 : unmB a2 = true
  case neg =>
    have U0 := hide (unm_yes w0 u0)
    have U1 := hide (unm_yes w1 u1)
    have U2 := hide (unm_no w2 (by simpa using u2))
    clear u0 u1 u2 w0 w1 w2 w3
    go_enter Try.func3, Try.ntmps3
    go_wp2_with (first | (go_at_call 4; with_reducible refine (U0.out _).mono ?_; rintro e w' ⟨rfl, rfl⟩) | (go_at_call 4; with_reducible refine (U1.out _).mono ?_; rintro e w' ⟨rfl, rfl⟩) | (go_at_call 4; with_reducible refine (U2.out _).mono ?_; rintro e w' ⟨rfl, rfl⟩))
    go_ret
    exact ⟨rfl, Below.refl _ _⟩
  by_cases u3 : unmB a3 = true
  case neg =>
    have U0 := hide (unm_yes w0 u0)
    have U1 := hide (unm_yes w1 u1)
    have U2 := hide (unm_yes w2 u2)
    have U3 := hide (unm_no w3 (by simpa using u3))
    clear u0 u1 u2 u3 w0 w1 w2 w3
    go_enter Try.func3, Try.ntmps3
    go_wp2_with (first | (go_at_call 4; with_reducible refine (U0.out _).mono ?_; rintro e w' ⟨rfl, rfl⟩) | (go_at_call 4; with_reducible refine (U1.out _).mono ?_; rintro e w' ⟨rfl, rfl⟩) | (go_at_call 4; with_reducible refine (U2.out _).mono ?_; rintro e w' ⟨rfl, rfl⟩) | (go_at_call 4; with_reducible refine (U3.out _).mono ?_; rintro e w' ⟨rfl, rfl⟩))
    go_ret
    exact ⟨rfl, Below.refl _ _⟩
  exact words_main a0 a1 a2 a3 a4 w w0 w1 w2 w3 u0 u1 u2 u3
end Go.Proofs.Ytecccieeikmfeaa
