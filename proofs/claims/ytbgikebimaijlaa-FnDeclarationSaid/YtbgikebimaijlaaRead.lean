/- Contracts of headed and read. Conditions: as each states them. -/
import Derived.Test.YtbgikebimaijlaaProg
import Derived.Test.YtbgikebimaijlaaBase
import Derived.Test.YtbgikebimaijlaaInline
import Derived.Deep.QuietTactic
namespace Go.Proofs.Ytbgikebimaijlaa
open Go.RowKit
theorem headed_any (x h : ByteArray) (w : World) : Calls Try.prog 8 #[.string x, .string h] w fun e w' => e = .returned (.bool (hitB x h 0)) ∧ w = w' := by
  by_cases hz : h.size ≤ x.size
  · have e1 := hit_in (u := x) (sub := h) (k := 0) (by omega)
    rw [Nat.zero_add] at e1
    have E1 := hide e1
    clear e1
    have d1 : decide (h.size ≤ x.size) = true := by simp; omega
    go_enter Try.func8, Try.ntmps8
    go_wp2
    go_ret
    exact ⟨ret_bool (by rw [E1.out]), rfl⟩
  · have e1 := hit_out (u := x) (sub := h) (k := 0) (by omega)
    have E1 := hide e1
    clear e1
    have d1 : decide (h.size ≤ x.size) = false := by simp; omega
    go_enter Try.func8, Try.ntmps8
    go_wp2
    go_ret
    exact ⟨ret_bool (by rw [E1.out]), rfl⟩
set_option maxHeartbeats 1000000 in
theorem read_no (t : ByteArray) (k next : Int) (s : ByteArray) (i : Int) (w : World) : Calls Try.prog 10 #[nodeKT k t, .int .i64 next, .bool false, .string s, .int .i64 i, .int .i64 0] w fun e w' => e = .returned (.bool true) ∧ Below w.heap.size w w' := by
  go_enter Try.func10, Try.ntmps10
  go_wp2
  go_ret
  exact ⟨rfl, by go_grown⟩
set_option maxHeartbeats 1000000 in
theorem read_yes (s : ByteArray) (i n : Nat) (w : World) (hs : s.size ≤ 1000) (hn : 0 < n) (hi : i + n ≤ s.size) : Calls Try.prog 10 #[nodeKT 29 (s.extract i (i + n)), .int .i64 ((i + n : Nat) : Int), .bool true, .string s, .int .i64 i, .int .i64 n] w fun e w' => e = .returned (.bool true) ∧ Below w.heap.size w w' := by
  have hne : ((n : Int) == 0) = false := by simp; omega
  have h0 : (0 : Int) ≤ (i : Int) := by omega
  have h1 : (i : Int) ≤ (i : Int) + (n : Int) := by omega
  have h2 : (i : Int) + (n : Int) ≤ (s.size : Int) := by omega
  have hw : ((i + n : Nat) : Int) = (i : Int) + (n : Int) := by omega
  rw [hw]
  clear hw
  go_enter Try.func10, Try.ntmps10
  go_wp2
  go_quiet (fail)
  go_wp2
  go_ret
  exact ⟨ret_bool (by simp), below_drewN ((Below.refl _ _).alloc (Nat.le_refl _) _) _⟩
end Go.Proofs.Ytbgikebimaijlaa
