/- Contracts of headed and read. Conditions: as each states them. -/
import Derived.Test.YtfmclgmcadiikaaGreatProg
import Derived.Test.YtfmclgmcadiikaaGreatBase
import Derived.Test.YtfmclgmcadiikaaGreatInline
import Derived.Deep.QuietTactic
namespace Go.Proofs.YtfmclgmcadiikaaGreat
open Go.RowKit
theorem headed_any (x h : ByteArray) (w : World) : Calls Tryz.prog 5 #[.string x, .string h] w fun e w' => e = .returned (.bool (hitB x h 0)) ∧ w = w' := by
  by_cases hz : h.size ≤ x.size
  · have e1 := hit_in (u := x) (sub := h) (k := 0) (by omega)
    rw [Nat.zero_add] at e1
    have E1 := hide e1
    clear e1
    have d1 : decide (h.size ≤ x.size) = true := by simp; omega
    go_enter Tryz.func5, Tryz.ntmps5
    go_wp2
    go_ret
    exact ⟨ret_bool (by rw [E1.out]), rfl⟩
  · have e1 := hit_out (u := x) (sub := h) (k := 0) (by omega)
    have E1 := hide e1
    clear e1
    have d1 : decide (h.size ≤ x.size) = false := by simp; omega
    go_enter Tryz.func5, Tryz.ntmps5
    go_wp2
    go_ret
    exact ⟨ret_bool (by rw [E1.out]), rfl⟩
end Go.Proofs.YtfmclgmcadiikaaGreat
