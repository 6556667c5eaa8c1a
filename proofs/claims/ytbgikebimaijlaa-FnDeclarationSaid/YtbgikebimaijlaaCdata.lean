/- The walk of FnCDATA. Conditions: none. -/
import Derived.Test.YtbgikebimaijlaaProg
import Derived.Test.YtbgikebimaijlaaBase
import Derived.Test.YtbgikebimaijlaaMark
import Derived.Test.YtbgikebimaijlaaInline
import Derived.Test.YtbgikebimaijlaaPMark
import Derived.Test.YtbgikebimaijlaaRead
namespace Go.Proofs.Ytbgikebimaijlaa
open Go.RowKit
abbrev cdP : ByteArray := ⟨#[60, 33, 91, 67, 68, 65, 84, 65, 91]⟩
abbrev cdS : ByteArray := ⟨#[93, 93, 62]⟩
/-- A piece that begins at a place and ends behind what is sought first. -/
theorem until_tail (s pre suf : ByteArray) (i : Nat) (hi : i ≤ s.size) (hs : 0 < suf.size) (hp : hitB s pre i = true) : untilN (s.extract i s.size) pre suf = (match fst_ s suf (i + pre.size) with | some k => k + suf.size - i | none => 0) := by
  unfold untilN
  rw [hit_tail s pre i 0 hi, Nat.add_zero, hp, fst_tail s suf i pre.size hi hs]
  rcases fst_is s suf (i + pre.size) with ⟨k, h1, h2, _⟩ | ⟨h1, _⟩
  · rw [h1]; simp; omega
  · rw [h1]; rfl
set_option maxRecDepth 100000 in
set_option maxHeartbeats 2000000 in
theorem htmlCDATA_yes (s : ByteArray) (i k : Nat) (w : World) (hs : s.size ≤ 1000) (hi : i ≤ s.size) (hp : hitB s cdP i = true) (hk : fst_ s cdS (i + 9) = some k) :
    Calls Try.prog 9 #[.string s, .int .i64 i] w fun e w' => e = .returned (.tuple #[nodeKT 29 (s.extract i (k + 3)), .int .i64 (k + 3 : Nat), .bool true]) ∧ Below w.heap.size w w' := by
  have C := fun wx => pMark_yes s cdP cdS i k wx hs hi (by decide) (by decide) (by decide) (by decide) hp hk
  have CH := hide C
  clear C hp hk
  go_enter Try.func9, Try.ntmps9
  go_wp2_with (first | (go_at_call 45; refine (CH.out _).mono ?_; rintro e w' ⟨rfl, rfl⟩) | (go_at_call 21; refine (oneTag_yes (w.heap.size + 1) (s.extract i (k + 3)) _ _ (by simp) (by simp)).mono ?_; rintro e w' ⟨rfl, rfl⟩) | go_in)
  exact bodyPost_ret (v := .tuple #[nodeKT 29 (s.extract i (k + 3)), .int .i64 (k + 3 : Nat), .bool true]) (by simp [results, Try.results9, go_sem]) rfl ⟨rfl, by go_grown⟩
set_option maxRecDepth 100000 in
set_option maxHeartbeats 2000000 in
theorem htmlCDATA_no (s : ByteArray) (i : Nat) (w : World) (hs : s.size ≤ 1000) (hi : i ≤ s.size) (hn : hitB s cdP i = false ∨ fst_ s cdS (i + 9) = none) :
    Calls Try.prog 9 #[.string s, .int .i64 i] w fun e w' => e = .returned (.tuple #[nodeKT 0 ⟨#[]⟩, .int .i64 0, .bool false]) ∧ Below w.heap.size w w' := by
  have C := fun wx => pMark_no s cdP cdS i wx hs hi (by decide) (by decide) (by decide) hn
  have CH := hide C
  clear C hn
  go_enter Try.func9, Try.ntmps9
  go_wp2_with (first | (go_at_call 45; refine (CH.out _).mono ?_; rintro e w' ⟨rfl, rfl⟩) | (go_at_call 21; refine (one_no _ _ _).mono ?_; rintro e w' ⟨rfl, rfl⟩) | go_in)
  exact bodyPost_ret (v := .tuple #[nodeKT 0 ⟨#[]⟩, .int .i64 0, .bool false]) (by simp [results, Try.results9, go_sem]) rfl ⟨rfl, by go_grown⟩
end Go.Proofs.Ytbgikebimaijlaa
