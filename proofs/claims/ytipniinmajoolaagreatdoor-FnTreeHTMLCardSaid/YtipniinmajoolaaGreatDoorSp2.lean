/- The reference's HTML: rows of inlines and of blocks, an inline. Conditions: sizes, as each states them. Printed by gensp2.py. -/
import Derived.Test.YtipniinmajoolaaGreatDoorSp1
import Derived.Deep.MidRow
namespace Go.Proofs.YtipniinmajoolaaGreatDoor
open Go.RowKit

theorem inlinesS_of (w : World) (ks : Value) (n M : Nat) (cs : Nat → Array Value) (ys : Nat → ByteArray) (hr : RowN 10 w ks n cs) (h10 : ∀ k, k < n → (cs k).size = 10) (hM : M * n ≤ 1000000000000) (hy : ∀ k, k < n → (ys k).size ≤ M)
    (hC : ∀ k, k < n → ∀ wx, Below w.heap.size w wx → Calls Tryz.prog 45 #[.agg (cs k)] wx fun e w' => e = .returned (.string (ys k)) ∧ Below wx.heap.size wx w') :
    Calls Tryz.prog 28 #[ks] w fun e w' => e = .returned (.string (catY ys n)) ∧ Below w.heap.size w w' := by
  rcases hr with ⟨rfl, rfl⟩ | ⟨g, cap, rfl, h0, h1, h2, hlt, hrow⟩
  · go_enter Tryz.func28, Tryz.ntmps28
    go_wp2
    go_loop [3, 4] (fun o kv => o = .string ByteArray.empty ∧ kv = .int .i64 0) (fun _ _ => 0)
    case atStart => exact ⟨rfl, rfl⟩
    case round =>
      obtain ⟨rfl, rfl⟩ := hrel
      go_wp2
      go_ret
      exact ⟨rfl, Below.refl _ _⟩
  · have HR := hide hrow
    have H10 := hide h10
    have HY := hide hy
    have HC := hide hC
    have HMn : ∀ m, m ≤ n → M * m ≤ 1000000000000 := fun m hm => Nat.le_trans (Nat.mul_le_mul_left _ hm) hM
    have HM := hide HMn
    clear hrow h10 hy hC hM HMn
    go_enter Tryz.func28, Tryz.ntmps28
    go_wp2
    go_loopw [3, 4] (fun o kv wr => ∃ (k : Nat) (t : ByteArray), k ≤ n ∧ o = .string t ∧ kv = .int .i64 k ∧ t.size ≤ 1000000000000 ∧ Hid (t = catY ys k) ∧ Below w.heap.size w wr) (fun _ kv _ => n - (intOf kv).toNat)
    case atStart => exact ⟨0, ByteArray.empty, by omega, rfl, rfl, by decide, rfl, Below.refl _ _⟩
    case round =>
      obtain ⟨k, t, hk, rfl, rfl, hz, hT, hb⟩ := hrel
      by_cases hlt2 : k < n
      · have hltI : (k : Int) < (n : Int) := by omega
        have hcell : wr.rangeAt g (k * 10) (cs k).toList := fun j v hv => by
          rw [hb.cell (p := ⟨g, k * 10 + j, none⟩) hlt]; exact HR.out k hlt2 j v hv
        have hsz : (Tryz.prog.info? 27).map (·.size) = some (cs k).toList.length := by rw [Array.length_toList, H10.out k hlt2]; exact info_sn10
        have C := HC.out k hlt2 wr hb
        have hyz : (ys k).size ≤ 1000000000000 := Nat.le_trans (HY.out k hlt2) (by have := HM.out 1 (by omega); rw [Nat.mul_one] at this; exact this)
        have hT2 : (t ++ ys k) = catY ys (k + 1) := by rw [hT.out]; rfl
        have hz2 : (t ++ ys k).size ≤ 1000000000000 := by
          rw [hT2]; exact Nat.le_trans (cat_le (k + 1) (fun j hj => HY.out j (by omega))) (HM.out (k + 1) (by omega))
        obtain ⟨y, hyk⟩ : ∃ y, y = ys k := ⟨_, rfl⟩
        rw [← hyk] at C hyz hT2 hz2
        have C := hide C
        have HCE := hide hcell
        have HSZ := hide hsz
        have HT2 := hide hT2
        have HZ2 := hide hz2
        clear hcell hsz hT2 hz2 hyk
        go_wp2_with (first | (refine wpList_load_mid rfl 27 (.tmp 14) rfl g (k * 10) rfl (cs k).toList _ HCE.out Tryz.underlying27 rfl HSZ.out ?_) | (go_at_call 45; refine C.out.mono ?_; rintro e w1 ⟨rfl, hb1⟩))
        go_roundw
        case rel => exact ⟨k + 1, _, by omega, rfl, by go_num, HZ2.out, HT2.out, hb.trans (hb1.mono hb.size)⟩
        case measure => simp [intOf]; omega
      · obtain rfl : k = n := by omega
        have hltI : ¬ ((k : Int) < (k : Int)) := by omega
        go_wp2
        go_ret
        exact ⟨ret_str hT.out, hb⟩

theorem blocksS_of (w : World) (ks : Value) (n M : Nat) (cs : Nat → Array Value) (ys : Nat → ByteArray) (hr : RowN 10 w ks n cs) (h10 : ∀ k, k < n → (cs k).size = 10) (hM : M * n ≤ 1000000000000) (hy : ∀ k, k < n → (ys k).size ≤ M)
    (hC : ∀ k, k < n → ∀ wx, Below w.heap.size w wx → Calls Tryz.prog 13 #[.agg (cs k)] wx fun e w' => e = .returned (.string (ys k)) ∧ Below wx.heap.size wx w') :
    Calls Tryz.prog 8 #[ks] w fun e w' => e = .returned (.string (catY ys n)) ∧ Below w.heap.size w w' := by
  rcases hr with ⟨rfl, rfl⟩ | ⟨g, cap, rfl, h0, h1, h2, hlt, hrow⟩
  · go_enter Tryz.func8, Tryz.ntmps8
    go_wp2
    go_loop [3, 4] (fun o kv => o = .string ByteArray.empty ∧ kv = .int .i64 0) (fun _ _ => 0)
    case atStart => exact ⟨rfl, rfl⟩
    case round =>
      obtain ⟨rfl, rfl⟩ := hrel
      go_wp2
      go_ret
      exact ⟨rfl, Below.refl _ _⟩
  · have HR := hide hrow
    have H10 := hide h10
    have HY := hide hy
    have HC := hide hC
    have HMn : ∀ m, m ≤ n → M * m ≤ 1000000000000 := fun m hm => Nat.le_trans (Nat.mul_le_mul_left _ hm) hM
    have HM := hide HMn
    clear hrow h10 hy hC hM HMn
    go_enter Tryz.func8, Tryz.ntmps8
    go_wp2
    go_loopw [3, 4] (fun o kv wr => ∃ (k : Nat) (t : ByteArray), k ≤ n ∧ o = .string t ∧ kv = .int .i64 k ∧ t.size ≤ 1000000000000 ∧ Hid (t = catY ys k) ∧ Below w.heap.size w wr) (fun _ kv _ => n - (intOf kv).toNat)
    case atStart => exact ⟨0, ByteArray.empty, by omega, rfl, rfl, by decide, rfl, Below.refl _ _⟩
    case round =>
      obtain ⟨k, t, hk, rfl, rfl, hz, hT, hb⟩ := hrel
      by_cases hlt2 : k < n
      · have hltI : (k : Int) < (n : Int) := by omega
        have hcell : wr.rangeAt g (k * 10) (cs k).toList := fun j v hv => by
          rw [hb.cell (p := ⟨g, k * 10 + j, none⟩) hlt]; exact HR.out k hlt2 j v hv
        have hsz : (Tryz.prog.info? 27).map (·.size) = some (cs k).toList.length := by rw [Array.length_toList, H10.out k hlt2]; exact info_sn10
        have C := HC.out k hlt2 wr hb
        have hyz : (ys k).size ≤ 1000000000000 := Nat.le_trans (HY.out k hlt2) (by have := HM.out 1 (by omega); rw [Nat.mul_one] at this; exact this)
        have hT2 : (t ++ ys k) = catY ys (k + 1) := by rw [hT.out]; rfl
        have hz2 : (t ++ ys k).size ≤ 1000000000000 := by
          rw [hT2]; exact Nat.le_trans (cat_le (k + 1) (fun j hj => HY.out j (by omega))) (HM.out (k + 1) (by omega))
        obtain ⟨y, hyk⟩ : ∃ y, y = ys k := ⟨_, rfl⟩
        rw [← hyk] at C hyz hT2 hz2
        have C := hide C
        have HCE := hide hcell
        have HSZ := hide hsz
        have HT2 := hide hT2
        have HZ2 := hide hz2
        clear hcell hsz hT2 hz2 hyk
        go_wp2_with (first | (refine wpList_load_mid rfl 27 (.tmp 14) rfl g (k * 10) rfl (cs k).toList _ HCE.out Tryz.underlying27 rfl HSZ.out ?_) | (go_at_call 13; refine C.out.mono ?_; rintro e w1 ⟨rfl, hb1⟩))
        go_roundw
        case rel => exact ⟨k + 1, _, by omega, rfl, by go_num, HZ2.out, HT2.out, hb.trans (hb1.mono hb.size)⟩
        case measure => simp [intOf]; omega
      · obtain rfl : k = n := by omega
        have hltI : ¬ ((k : Int) < (k : Int)) := by omega
        go_wp2
        go_ret
        exact ⟨ret_str hT.out, hb⟩
end Go.Proofs.YtipniinmajoolaaGreatDoor
