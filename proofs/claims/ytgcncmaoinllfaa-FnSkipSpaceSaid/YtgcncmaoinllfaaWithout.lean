/- The contract of withoutByte: it returns a text of at most 95 bytes, and writes nothing that was there. Conditions: none. -/
import Derived.Test.YtgcncmaoinllfaaProg
import Derived.Test.YtgcncmaoinllfaaBase
namespace Go.Proofs.Ytgcncmaoinllfaa
open Go.RowKit
theorem info_u8 : (Try.prog.info? 5).map (fun i => (i.zero, i.size, i.bytes)) = some (some (.int .u8 0), 1, 1) := by kernel_rfl
def SomeText (n : Nat) (w : World) (e : Ending) (w' : World) : Prop := ∃ s : ByteArray, e = .returned (.string s) ∧ s.size ≤ n ∧ Below w.heap.size w w'
set_option maxHeartbeats 1000000 in
theorem withoutByte_any (c : Int) (w : World) : Calls Try.prog 13 #[.int .u8 c] w (SomeText 95 w) := by
  obtain ⟨i0, hi0, hz0, hz1, hz2⟩ := info_parts info_u8
  go_enter Try.func13, Try.ntmps13
  go_wp2
  go_loopw [3, 4] (fun v b wr => ∃ (b' : Int) (zs : List Int), 32 ≤ b' ∧ b' ≤ 127 ∧ b = .int .u8 b' ∧ (zs.length : Int) + 32 ≤ b' ∧ wr.ownsRow w.heap.size 5 1 v zs.length (zs.map (Value.int .u8)) ∧ Below w.heap.size w wr) (fun _ b _ => 127 - (intOf b).toNat)
  case atStart => exact ⟨32, [], by omega, by omega, rfl, by simp, World.ownsRow_lit _ _ _ (Nat.le_refl _) (by simp) rfl, (Below.refl _ _).alloc (Nat.le_refl _) _⟩
  case round =>
    obtain ⟨b, zs, h32, h127, rfl, hl, hown, hbe⟩ := hrel
    by_cases hlt : b ≤ 126
    · by_cases hc : b = c
      · have hc' : (b != c) = false := by simp [hc]
        clear hc
        go_wp2
        go_roundw
        case rel => exact ⟨b + 1, zs, by omega, by omega, rfl, by omega, hown, hbe⟩
        case measure => simp [intOf]; omega
      · have hc' : (b != c) = true := by simp [hc]
        clear hc
        go_wp2_with (at_builtin; go_loud (refine wpList_append_own _ rfl (.tmp 13) (.tmp 15) 23 rfl w.heap.size 5 i0 (.int .u8 0) 1 1 Try.underlying23 hi0 hz0 hz1 hz2 rfl (by decide) _ zs.length _ rfl (hown.alloc _) ⟨wr.heap.size, 0, none⟩ 1 1 [.int .u8 b] rfl rfl (cellOne _ _ _) (by simp [Value.oneCell']) (by unfold maxLen; omega) (by omega) (by have := hbe.size; simp; omega) ?_); intro v1 w1 hown1 hg1 _)
        have hb1 : Below w.heap.size w w1 := (hbe.alloc hbe.size _).grown hg1 (by have := hbe.size; simp; omega) (fun k hk => (hown.lt k hk).1)
        go_roundw
        case rel => exact ⟨b + 1, zs ++ [b], by omega, by omega, rfl, by simp; omega, by simpa using hown1, hb1⟩
        case measure => simp [intOf]; omega
    · obtain rfl : b = 127 := by omega
      have hcv := run_conv_own (P := Try.prog) 23 9 5 Try.underlying23 Try.underlying5 Try.underlying9 hown
      go_wp2
      go_ret
      exact ⟨_, rfl, by rw [bytesOf_size]; omega, hbe⟩
end Go.Proofs.Ytgcncmaoinllfaa
