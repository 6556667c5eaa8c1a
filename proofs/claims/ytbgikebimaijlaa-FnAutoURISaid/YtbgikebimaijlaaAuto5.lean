/- Contracts of the thin package's AutoLinkURI. Conditions: texts of at most 1000 bytes. -/
import Derived.Test.YtbgikebimaijlaaInline2
import Derived.Test.YtbgikebimaijlaaAuto3
namespace Go.Proofs.Ytbgikebimaijlaa
open Go.RowKit
set_option maxRecDepth 100000 in
set_option maxHeartbeats 4000000 in
theorem autoURI_yes (s : ByteArray) (i x : Nat) (w : World) (hs : s.size ≤ 1000) (hi : i ≤ s.size) (hx : auE s i = some x) :
    Calls Try.prog 18 #[.string s, .int .i64 i] w fun e w' => e = .returned (.tuple #[.agg (nodeAC (s.extract (i + 1) x) (w.heap.size + 1 + 1 + 1 + 1)), .int .i64 ((x : Int) + 1), .bool true]) ∧ Below w.heap.size w w' := by
  have C := fun wx => (parseAuto_any s i wx hs hi).mono (fun e w' h => h.2 x hx)
  have CH := hide C
  clear C
  go_enter Try.func18, Try.ntmps18
  go_wp2_with (first | (go_at_call 39; refine (CH.out _).mono ?_; rintro e w' ⟨rfl, rfl⟩) | (go_at_call 21; refine (oneAuto_yes (w.heap.size + 1) (s.extract (i + 1) x) _ _ (by simp) (by simp) (by simp)).mono ?_; rintro e w' ⟨rfl, rfl⟩) | go_in)
  exact bodyPost_ret (v := .tuple #[.agg (nodeAC (s.extract (i + 1) x) (w.heap.size + 1 + 1 + 1 + 1)), .int .i64 ((x : Int) + 1), .bool true]) (by simp [results, Try.results18, go_sem]) rfl ⟨rfl, by go_grown⟩
set_option maxRecDepth 100000 in
set_option maxHeartbeats 4000000 in
theorem autoURI_no (s : ByteArray) (i : Nat) (w : World) (hs : s.size ≤ 1000) (hi : i ≤ s.size) (hx : auE s i = none) :
    Calls Try.prog 18 #[.string s, .int .i64 i] w fun e w' => e = .returned (.tuple #[nodeKT 0 ⟨#[]⟩, .int .i64 0, .bool false]) ∧ Below w.heap.size w w' := by
  have C := fun wx => (parseAuto_any s i wx hs hi).mono (fun e w' h => h.1 hx)
  have CH := hide C
  clear C
  go_enter Try.func18, Try.ntmps18
  go_wp2_with (first | (go_at_call 39; refine (CH.out _).mono ?_; rintro e w' ⟨rfl, rfl⟩) | (go_at_call 21; refine (one_no _ _ _).mono ?_; rintro e w' ⟨rfl, rfl⟩) | go_in)
  exact bodyPost_ret (v := .tuple #[nodeKT 0 ⟨#[]⟩, .int .i64 0, .bool false]) (by simp [results, Try.results18, go_sem]) rfl ⟨rfl, by go_grown⟩
end Go.Proofs.Ytbgikebimaijlaa
