/- Contracts of parseHTMLMarker. Conditions: as each states them. -/
import Derived.Test.YtfmclgmcadiikaaGreatProg
import Derived.Test.YtfmclgmcadiikaaGreatBase
import Derived.Test.YtfmclgmcadiikaaGreatMark
namespace Go.Proofs.YtfmclgmcadiikaaGreat
open Go.RowKit
theorem pMark_yes (s pre suf : ByteArray) (i k : Nat) (w : World) (hs : s.size ≤ 1000) (hi : i ≤ s.size) (h1 : 0 < pre.size) (h2 : pre.size ≤ 100) (h3 : 0 < suf.size) (h4 : suf.size ≤ 100) (hp : hitB s pre i = true) (hk : fst_ s suf (i + pre.size) = some k) :
    Calls Tryz.prog 39 #[.string s, .int .i64 i, .string pre, .string suf] w fun e w' => e = .returned (.tuple #[.iface 74 (.pointer (some ⟨w.heap.size, 0, none⟩)), .int .i64 (k + suf.size : Nat), .bool true]) ∧ w.alloc (.cells #[.string (s.extract i (k + suf.size))] 75) = w' := by
  have hpz : i + pre.size ≤ s.size := by
    apply Nat.le_of_not_lt; intro h; rw [hit_out h] at hp; cases hp
  have hpe := (hit_in hpz).symm.trans hp
  obtain ⟨ka, kb⟩ : i + pre.size ≤ k ∧ k + suf.size ≤ s.size := by
    rcases fst_is s suf (i + pre.size) with ⟨k', e1, e2, e3, _⟩ | ⟨e1, _⟩
    · rw [hk] at e1; injection e1 with e1; subst e1; exact ⟨e2, e3⟩
    · rw [hk] at e1; cases e1
  have hx : fst_ (s.extract (i + pre.size) s.size) suf 0 = some (k - (i + pre.size)) := by
    rw [fst_tail s suf (i + pre.size) 0 hpz h3, Nat.add_zero, hk]; rfl
  have hpe' : (((s.extract i s.size).extract 0 pre.size).toList == pre.toList) = true := by
    have e1 := hit_tail s pre i 0 (by omega)
    rw [Nat.add_zero, hp, hit_in (by rw [ByteArray.size_extract]; omega), Nat.zero_add] at e1
    exact e1
  have HX := hide hx
  clear hx hp hk
  have C : ∀ wx : World, Calls Tryz.prog 46 #[.string (s.extract (i + pre.size) s.size), .string suf] wx fun e w' => e = .returned (.int .i64 ((k - (i + pre.size) : Nat) : Int)) ∧ wx = w' := fun wx =>
    (zzIndex_any _ suf wx (by rw [ByteArray.size_extract]; omega) (by omega) h3).mono fun e w' h => by rw [HX.out] at h; exact h
  have CH := hide C
  clear C
  go_enter Tryz.func39, Tryz.ntmps39
  go_wp2_with (first | (go_at_call 46; refine (CH.out _).mono ?_; rintro e w' ⟨rfl, rfl⟩) | go_in)
  go_ret3
  exact ⟨ret_mid (by omega), by rw [show k + suf.size = i + pre.size + (k - (i + pre.size)) + suf.size by omega]⟩
theorem pMark_no (s pre suf : ByteArray) (i : Nat) (w : World) (hs : s.size ≤ 1000) (hi : i ≤ s.size) (h2 : pre.size ≤ 100) (h3 : 0 < suf.size) (h4 : suf.size ≤ 100) (hn : hitB s pre i = false ∨ fst_ s suf (i + pre.size) = none) :
    Calls Tryz.prog 39 #[.string s, .int .i64 i, .string pre, .string suf] w fun e w' => e = .returned (.tuple #[.nilIface, .int .i64 0, .bool false]) ∧ w = w' := by
  by_cases hpz : i + pre.size ≤ s.size
  case neg =>
    have hz : s.size - i < pre.size := by omega
    have d1 : decide (pre.size ≤ s.size - i) = false := by simp; omega
    clear hn
    go_enter Tryz.func39, Tryz.ntmps39
    go_wp2_with (go_in)
    go_ret3
    exact ⟨rfl, rfl⟩
  have e1 := hit_tail s pre i 0 (by omega)
  rw [Nat.add_zero, hit_in (u := s.extract i s.size) (by rw [ByteArray.size_extract]; omega), Nat.zero_add] at e1
  by_cases hp : hitB s pre i = true
  case neg =>
    have hp : hitB s pre i = false := by simpa using hp
    rw [hp] at e1
    clear hn hp
    go_enter Tryz.func39, Tryz.ntmps39
    go_wp2_with (go_in)
    go_ret3
    exact ⟨rfl, rfl⟩
  have hk : fst_ s suf (i + pre.size) = none := by
    rcases hn with h | h
    · rw [hp] at h; cases h
    · exact h
  rw [hp] at e1
  have hx : fst_ (s.extract (i + pre.size) s.size) suf 0 = none := by
    rw [fst_tail s suf (i + pre.size) 0 hpz h3, Nat.add_zero, hk]; rfl
  have HX := hide hx
  clear hx hp hk hn
  have C : ∀ wx : World, Calls Tryz.prog 46 #[.string (s.extract (i + pre.size) s.size), .string suf] wx fun e w' => e = .returned (.int .i64 (-1)) ∧ wx = w' := fun wx =>
    (zzIndex_any _ suf wx (by rw [ByteArray.size_extract]; omega) (by omega) h3).mono fun e w' h => by rw [HX.out] at h; exact h
  have CH := hide C
  clear C
  go_enter Tryz.func39, Tryz.ntmps39
  go_wp2_with (first | (go_at_call 46; refine (CH.out _).mono ?_; rintro e w' ⟨rfl, rfl⟩) | go_in)
  go_ret3
  exact ⟨rfl, rfl⟩
end Go.Proofs.YtfmclgmcadiikaaGreat
