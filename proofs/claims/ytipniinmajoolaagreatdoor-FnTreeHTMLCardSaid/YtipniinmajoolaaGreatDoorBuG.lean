/- Nodes of blocks turned into the package's blocks: impl.built at blocks of code. Conditions: as each states them. -/
import Derived.Test.YtipniinmajoolaaGreatDoorBuF
import Derived.Test.YtipniinmajoolaaGreatDoorBuB1
import Derived.Deep.RegionHeld3
namespace Go.Proofs.YtipniinmajoolaaGreatDoor
open Go.RowKit
theorem one_left (s t : ByteArray) {k : Nat} (h : k < s.size) : oneS (s ++ t) k = oneS s k := by
  unfold oneS
  rw [bt_left s t h]
  have : (s ++ t).extract k (k + 1) = s.extract k (k + 1) := by
    refine ext_bt (by rw [ByteArray.size_extract, ByteArray.size_extract, ByteArray.size_append]; omega) fun q hq => ?_
    rw [ByteArray.size_extract, ByteArray.size_append] at hq
    rw [bt_extract _ _ _ _ (by omega) (by rw [ByteArray.size_append]; omega), bt_extract _ _ _ _ (by omega) (by omega), bt_left s t (by omega)]
  rw [this]
theorem one_right (s t : ByteArray) {k : Nat} (h : k < t.size) : oneS (s ++ t) (s.size + k) = oneS t k := by
  unfold oneS
  rw [bt_right s t k]
  have : (s ++ t).extract (s.size + k) (s.size + k + 1) = t.extract k (k + 1) := by
    refine ext_bt (by rw [ByteArray.size_extract, ByteArray.size_extract, ByteArray.size_append]; omega) fun q hq => ?_
    rw [ByteArray.size_extract, ByteArray.size_append] at hq
    rw [bt_extract _ _ _ _ (by omega) (by rw [ByteArray.size_append]; omega), bt_extract _ _ _ _ (by omega) (by omega), show s.size + k + q = s.size + (k + q) by omega, bt_right s t]
  rw [this]
theorem esc_left (s t : ByteArray) : ∀ k, k ≤ s.size → escF (s ++ t) k = escF s k
  | 0, _ => rfl
  | k + 1, h => by rw [escF, escF, esc_left s t k (by omega), one_left s t (by omega)]
theorem esc_right (s t : ByteArray) : ∀ k, k ≤ t.size → escF (s ++ t) (s.size + k) = escF s s.size ++ escF t k
  | 0, _ => by rw [Nat.add_zero, esc_left s t s.size (Nat.le_refl _), escF, ByteArray.append_empty]
  | k + 1, h => by
    rw [show s.size + (k + 1) = s.size + k + 1 by omega, escF, esc_right s t k (by omega), one_right s t (by omega), escF, ByteArray.append_assoc]
theorem esc_app (s t : ByteArray) : escF (s ++ t) (s ++ t).size = escF s s.size ++ escF t t.size := by
  rw [ByteArray.size_append, esc_right s t t.size (Nat.le_refl _)]
theorem esc_lf : escF lfB lfB.size = lfB := by decide +kernel
theorem esc_cat (ls : Nat → ByteArray) : ∀ n, escF (catY (fun k => ls k ++ lfB) n) (catY (fun k => ls k ++ lfB) n).size = catY (lineH ls) n
  | 0 => rfl
  | n + 1 => by rw [catY, esc_app, esc_cat ls n, esc_app, esc_lf, catY]; rfl
theorem code_end (ti x : ByteArray) : EndLf (cHTML ti x) := by
  unfold cHTML
  exact EndLf.app _ ⟨by decide, by decide⟩
set_option maxHeartbeats 2000000 in
set_option maxRecDepth 100000 in
theorem built_code (w : World) (ti x : ByteArray) (hC : codeOk ti x) : Calls Tryz.prog 12 #[.agg (iN 7 x ti 0 ⟨#[]⟩ false (.slice none 0 0) ⟨#[96, 96, 96]⟩ 0 false)] w (BuiltP false (cHTML ti x) w) := by
  obtain ⟨h1, h2, h3, h4, h5⟩ := hC
  have CT := hide (cut_any (boxed2 w (iN 7 x ti 0 ⟨#[]⟩ false (.slice none 0 0) ⟨#[96, 96, 96]⟩ 0 false)).drew x h4 ⟨h3, h5⟩)
  have H2 := hide h2
  clear h2 h3 h5
  have K0 : (∀ j, (boxed2 w (iN 7 x ti 0 ⟨#[]⟩ false (.slice none 0 0) ⟨#[96, 96, 96]⟩ 0 false)).drew.cell? ⟨w.heap.size, j, none⟩ = (iN 7 x ti 0 ⟨#[]⟩ false (.slice none 0 0) ⟨#[96, 96, 96]⟩ 0 false)[j]?) ∧ ∀ j, (boxed2 w (iN 7 x ti 0 ⟨#[]⟩ false (.slice none 0 0) ⟨#[96, 96, 96]⟩ 0 false)).drew.cell? ⟨w.heap.size + 1, j, none⟩ = posV[j]? := cells2 (w := w) (nd := iN 7 x ti 0 ⟨#[]⟩ false (.slice none 0 0) ⟨#[96, 96, 96]⟩ 0 false) (Below.refl _ _).drew
  go_enter Tryz.func12, Tryz.ntmps12
  go_wp2
  go_region_held3 (fun w' => (∀ j, w'.cell? ⟨w.heap.size, j, none⟩ = (iN 7 x ti 0 ⟨#[]⟩ false (.slice none 0 0) ⟨#[96, 96, 96]⟩ 0 false)[j]?) ∧ ∀ j, w'.cell? ⟨w.heap.size + 1, j, none⟩ = posV[j]?) (first | exact K0 | exact K1 | exact K3 _) (first | (go_at_call 22; (with_reducible refine CT.out.mono ?_); rintro e w1 ⟨v1, n, ls, rfl, hH, hls, hcat, hb1⟩; obtain ⟨ao, cap, rfl, hn9, _⟩ := hH.now; have HH := hide hH; have HB := hide hb1; have HL := hide hls; have HCat := hide hcat; have K1 := cells2 (w := w) (nd := iN 7 x ti 0 ⟨#[]⟩ false (.slice none 0 0) ⟨#[96, 96, 96]⟩ 0 false) (ofDrew hb1); have K3 := fun o => cells2 (w := w) (nd := iN 7 x ti 0 ⟨#[]⟩ false (.slice none 0 0) ⟨#[96, 96, 96]⟩ 0 false) (w1 := w1.alloc o) ((ofDrew hb1).alloc hb1.size o); clear hH hb1 hls hcat hn9))
  all_goals
    go_wp2
    go_ret
    have hs := HB.out.size
    have hs0 : (boxed2 w (iN 7 x ti 0 ⟨#[]⟩ false (.slice none 0 0) ⟨#[96, 96, 96]⟩ 0 false)).drew.heap.size = w.heap.size + 2 := size_boxed2 _ _
    rw [hs0] at hs
    refine ⟨84, w1.heap.size, rfl, (held_box (w := w) (w1 := w1) (HH.out.wide (Nat.le_refl _) (Nat.le_refl _)) (by rw [hs0]; omega) #[.int .i64 0, .int .i64 0, .string ⟨#[96, 96, 96]⟩, .string ti, .slice ao n cap] 87 (by omega)).mono fun w2 hh => ⟨_, _, _, rfl, disp_CodeBlock, fun h => absurd h (by decide), fun _ => ⟨by decide, code_end ti x⟩, ?_⟩, below_boxed2 (w := w) (nd := iN 7 x ti 0 ⟨#[]⟩ false (.slice none 0 0) ⟨#[96, 96, 96]⟩ 0 false) (ofDrew HB.out) _⟩
    have hp := codeblock_prints w2 w1.heap.size 0 0 ti (.slice ao n cap) n ls hh.1 hh.2 (fun k hk => Nat.le_trans (HL.out k hk) (by omega)) h1 H2.out
    rw [← esc_cat ls n, HCat.out] at hp
    exact hp
end Go.Proofs.YtipniinmajoolaaGreatDoor
