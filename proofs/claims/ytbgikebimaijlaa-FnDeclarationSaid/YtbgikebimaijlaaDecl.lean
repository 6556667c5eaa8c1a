/- Contracts of parseHTMLDecl and of the reading of a declaration. Conditions: texts of at most 1000 bytes; the third byte is an upper-case letter. -/
import Derived.Test.YtbgikebimaijlaaCdata
import Derived.Test.YtbgikebimaijlaaAttr5
namespace Go.Proofs.Ytbgikebimaijlaa
open Go.RowKit
abbrev dcP : ByteArray := ⟨#[60, 33]⟩
abbrev dcS : ByteArray := ⟨#[62]⟩
theorem parseDecl_by (v : Value) (p : Value) (s : ByteArray) (i : Nat) (w w2 : World) (hs : s.size ≤ 1000) (hi : i + 2 < s.size) (c0 : 65 ≤ bt s (i + 2)) (c1 : bt s (i + 2) ≤ 90) (v1 v2 v3 : Value) (hv : v = .tuple #[v1, v2, v3])
    (C : Calls Try.prog 45 #[.string s, .int .i64 i, .string dcP, .string dcS] w fun e w' => e = .returned v ∧ w2 = w') :
    Calls Try.prog 38 #[p, .string s, .int .i64 i] w fun e w' => e = .returned v ∧ w2 = w' := by
  subst hv
  have CH := hide C
  have hb := get_bt s
  have hl : ltB (bt s (i + 2)) = true := by simp [ltB]; omega
  have hc : decide (97 ≤ bt s (i + 2)) = false := by simp; omega
  have hiI : (i : Int) + 2 < (s.size : Int) := by omega
  clear C
  go_enter Try.func38, Try.ntmps38
  go_wp2_with (first | (go_at_call 49; refine (isLetterM_any _ _).mono ?_; rw [hl]; rintro e w' ⟨rfl, rfl⟩) | (go_at_call 45; refine (CH.out).mono ?_; rintro e w' ⟨rfl, rfl⟩))
  go_ret3
  exact ⟨rfl, rfl⟩
set_option maxRecDepth 100000 in
set_option maxHeartbeats 4000000 in
theorem htmlDecl_yes (s : ByteArray) (i k : Nat) (w : World) (hs : s.size ≤ 1000) (hi : i + 2 < s.size) (c0 : 65 ≤ bt s (i + 2)) (c1 : bt s (i + 2) ≤ 90) (hp : hitB s dcP i = true) (hk : fst_ s dcS (i + 2) = some k) :
    Calls Try.prog 17 #[.string s, .int .i64 i] w fun e w' => e = .returned (.tuple #[nodeKT 29 (s.extract i (k + 1)), .int .i64 (k + 1 : Nat), .bool true]) ∧ Below w.heap.size w w' := by
  have C := fun p wx => parseDecl_by _ p s i wx _ hs hi c0 c1 _ _ _ rfl (pMark_yes s dcP dcS i k wx hs (by omega) (by decide) (by decide) (by decide) (by decide) hp hk)
  have CH := hide C
  have hmm := @run_makeMap Try.prog
  clear C hp hk
  go_enter Try.func17, Try.ntmps17
  go_wp2_with (first | (go_at_call 38; refine (CH.out _ _).mono ?_; rintro e w' ⟨rfl, rfl⟩) | (go_at_call 21; refine (oneTag_yes (w.heap.size + 1 + 1 + 1 + 1) (s.extract i (k + 1)) _ _ ((World.cell?_alloc_at _ _ _ _ (by simp)).trans (by rfl)) (by simp)).mono ?_; rintro e w' ⟨rfl, rfl⟩) | go_in)
  exact bodyPost_ret (v := .tuple #[nodeKT 29 (s.extract i (k + 1)), .int .i64 (k + 1 : Nat), .bool true]) (by simp [results, Try.results17, go_sem]) rfl ⟨rfl, by go_grown⟩
set_option maxRecDepth 100000 in
set_option maxHeartbeats 4000000 in
theorem htmlDecl_no (s : ByteArray) (i : Nat) (w : World) (hs : s.size ≤ 1000) (hi : i + 2 < s.size) (c0 : 65 ≤ bt s (i + 2)) (c1 : bt s (i + 2) ≤ 90) (hn : hitB s dcP i = false ∨ fst_ s dcS (i + 2) = none) :
    Calls Try.prog 17 #[.string s, .int .i64 i] w fun e w' => e = .returned (.tuple #[nodeKT 0 ⟨#[]⟩, .int .i64 0, .bool false]) ∧ Below w.heap.size w w' := by
  have C := fun p wx => parseDecl_by _ p s i wx _ hs hi c0 c1 _ _ _ rfl (pMark_no s dcP dcS i wx hs (by omega) (by decide) (by decide) (by decide) hn)
  have CH := hide C
  have hmm := @run_makeMap Try.prog
  clear C hn
  go_enter Try.func17, Try.ntmps17
  go_wp2_with (first | (go_at_call 38; refine (CH.out _ _).mono ?_; rintro e w' ⟨rfl, rfl⟩) | (go_at_call 21; refine (one_no _ _ _).mono ?_; rintro e w' ⟨rfl, rfl⟩) | go_in)
  exact bodyPost_ret (v := .tuple #[nodeKT 0 ⟨#[]⟩, .int .i64 0, .bool false]) (by simp [results, Try.results17, go_sem]) rfl ⟨rfl, by go_grown⟩
end Go.Proofs.Ytbgikebimaijlaa
