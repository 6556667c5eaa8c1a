/- Nodes of blocks turned into the package's blocks: impl.built at headings. Printed by gen_bub2.py. Conditions: as each states them. -/
import Derived.Test.YtipniinmajoolaaGreatDoorBuB1
import Derived.Deep.RegionHeld3
namespace Go.Proofs.YtipniinmajoolaaGreatDoor
open Go.RowKit
set_option maxHeartbeats 2000000 in
set_option maxRecDepth 100000 in
theorem built_para (w : World) (ks : Value) (n : Nat) (is : Nat → Inl) (hI : Inls 16 IInl w ks n is) : Calls Tryz.prog 12 #[.agg (iN 6 ⟨#[]⟩ ⟨#[]⟩ 0 ⟨#[]⟩ false ks ⟨#[]⟩ 0 false)] w (BuiltP false (pHTML (catI is n)) w) := by
  have hsh : ∃ (ao : Option Addr) (kn kc : Nat), ks = .slice ao kn kc := by
    obtain ⟨cs, hr, _⟩ := hI.row
    exact hr.shp
  obtain ⟨ao, kn, kc, rfl⟩ := hsh
  have TX := hide (text_any (boxed2 w (iN 6 ⟨#[]⟩ ⟨#[]⟩ 0 ⟨#[]⟩ false (.slice ao kn kc) ⟨#[]⟩ 0 false)).drew 6 ⟨#[]⟩ ⟨#[]⟩ 0 ⟨#[]⟩ false (.slice ao kn kc) ⟨#[]⟩ 0 false n is (hI.belowI (below2 w _ _).drew))
  clear hI
  go_enter Tryz.func12, Tryz.ntmps12
  go_wp2
  go_region_with (go_at_call 21; (with_reducible refine TX.out.mono ?_); rintro e w1 ⟨g1, rfl, hH, hb1⟩; have HH := hide hH; have HB := hide hb1; have hcs := cells2 (w := w) (nd := iN 6 ⟨#[]⟩ ⟨#[]⟩ 0 ⟨#[]⟩ false (.slice ao kn kc) ⟨#[]⟩ 0 false) (ofDrew hb1); have HC1 := hcs.1; have HC2 := hcs.2; clear hcs hH hb1)
  all_goals
    go_wp2
    go_ret
    have hs := HB.out.size
    have hs0 : (boxed2 w (iN 6 ⟨#[]⟩ ⟨#[]⟩ 0 ⟨#[]⟩ false (.slice ao kn kc) ⟨#[]⟩ 0 false)).drew.heap.size = w.heap.size + 2 := size_boxed2 _ _
    rw [hs0] at hs
    exact ⟨81, w1.heap.size, rfl, (held_box (w := w) (w1 := w1) (HH.out.wide (Nat.le_refl _) (Nat.le_refl _)) (by rw [hs0]; omega) #[.int .i64 0, .int .i64 0, ptr g1] 83 (by omega)).mono fun w2 h => ⟨_, _, _, rfl, disp_Paragraph, fun h => absurd h (by decide), fun _ => ⟨by decide, EndLf.app _ ⟨by decide, by decide⟩⟩, para_prints w2 _ 0 0 g1 _ h.1 h.2⟩, below_boxed2 (w := w) (nd := iN 6 ⟨#[]⟩ ⟨#[]⟩ 0 ⟨#[]⟩ false (.slice ao kn kc) ⟨#[]⟩ 0 false) (ofDrew HB.out) _⟩
end Go.Proofs.YtipniinmajoolaaGreatDoor
namespace Go.Proofs.YtipniinmajoolaaGreatDoor
open Go.RowKit
theorem heading_end (h : Nat) (z : ByteArray) : EndLf (hHTML h z) := by
  unfold hHTML
  exact EndLf.app _ (EndLf.app _ ⟨by decide, by decide⟩)
set_option maxHeartbeats 2000000 in
set_option maxRecDepth 100000 in
theorem built_heading (w : World) (ks : Value) (n h : Nat) (is : Nat → Inl) (h6 : h ≤ 6) (hI : Inls 16 IInl w ks n is) : Calls Tryz.prog 12 #[.agg (iN 5 ⟨#[]⟩ ⟨#[]⟩ (h : Nat) ⟨#[]⟩ false ks ⟨#[]⟩ 0 false)] w (BuiltP false (hHTML h (catI is n)) w) := by
  have hsh : ∃ (ao : Option Addr) (kn kc : Nat), ks = .slice ao kn kc := by
    obtain ⟨cs, hr, _⟩ := hI.row
    exact hr.shp
  obtain ⟨ao, kn, kc, rfl⟩ := hsh
  have TX := hide (text_any (boxed2 w (iN 5 ⟨#[]⟩ ⟨#[]⟩ (h : Nat) ⟨#[]⟩ false (.slice ao kn kc) ⟨#[]⟩ 0 false)).drew 5 ⟨#[]⟩ ⟨#[]⟩ (h : Nat) ⟨#[]⟩ false (.slice ao kn kc) ⟨#[]⟩ 0 false n is (hI.belowI (below2 w _ _).drew))
  clear hI
  have K0 : (∀ j, (boxed2 w (iN 5 ⟨#[]⟩ ⟨#[]⟩ (h : Nat) ⟨#[]⟩ false (.slice ao kn kc) ⟨#[]⟩ 0 false)).drew.cell? ⟨w.heap.size, j, none⟩ = (iN 5 ⟨#[]⟩ ⟨#[]⟩ (h : Nat) ⟨#[]⟩ false (.slice ao kn kc) ⟨#[]⟩ 0 false)[j]?) ∧ ∀ j, (boxed2 w (iN 5 ⟨#[]⟩ ⟨#[]⟩ (h : Nat) ⟨#[]⟩ false (.slice ao kn kc) ⟨#[]⟩ 0 false)).drew.cell? ⟨w.heap.size + 1, j, none⟩ = posV[j]? := cells2 (w := w) (nd := iN 5 ⟨#[]⟩ ⟨#[]⟩ (h : Nat) ⟨#[]⟩ false (.slice ao kn kc) ⟨#[]⟩ 0 false) (Below.refl _ _).drew
  go_enter Tryz.func12, Tryz.ntmps12
  go_wp2
  go_region_held3 (fun w' => (∀ j, w'.cell? ⟨w.heap.size, j, none⟩ = (iN 5 ⟨#[]⟩ ⟨#[]⟩ (h : Nat) ⟨#[]⟩ false (.slice ao kn kc) ⟨#[]⟩ 0 false)[j]?) ∧ ∀ j, w'.cell? ⟨w.heap.size + 1, j, none⟩ = posV[j]?) (first | exact K0 | exact K1 | exact K3 _) (first | (go_at_call 21; (with_reducible refine TX.out.mono ?_); rintro e w1 ⟨g1, rfl, hH, hb1⟩; have HH := hide hH; have HB := hide hb1; have K1 := cells2 (w := w) (nd := iN 5 ⟨#[]⟩ ⟨#[]⟩ (h : Nat) ⟨#[]⟩ false (.slice ao kn kc) ⟨#[]⟩ 0 false) (ofDrew hb1); have K3 := fun o => cells2 (w := w) (nd := iN 5 ⟨#[]⟩ ⟨#[]⟩ (h : Nat) ⟨#[]⟩ false (.slice ao kn kc) ⟨#[]⟩ 0 false) (w1 := w1.alloc o) ((ofDrew hb1).alloc hb1.size o); clear hH hb1))
  all_goals
    go_wp2
    go_ret
    have hs := HB.out.size
    have hs0 : (boxed2 w (iN 5 ⟨#[]⟩ ⟨#[]⟩ (h : Nat) ⟨#[]⟩ false (.slice ao kn kc) ⟨#[]⟩ 0 false)).drew.heap.size = w.heap.size + 2 := size_boxed2 _ _
    rw [hs0] at hs
    exact ⟨76, w1.heap.size, rfl, (held_box (w := w) (w1 := w1) (HH.out.wide (Nat.le_refl _) (Nat.le_refl _)) (by rw [hs0]; omega) #[.int .i64 0, .int .i64 0, .int .i64 h, ptr g1, .string ⟨#[]⟩] 80 (by omega)).mono fun w2 hh => ⟨_, _, _, rfl, disp_Heading, fun h => absurd h (by decide), fun _ => ⟨by decide, heading_end h _⟩, heading_prints w2 _ 0 0 h g1 _ hh.1 h6 hh.2⟩, below_boxed2 (w := w) (nd := iN 5 ⟨#[]⟩ ⟨#[]⟩ (h : Nat) ⟨#[]⟩ false (.slice ao kn kc) ⟨#[]⟩ 0 false) (ofDrew HB.out) _⟩
end Go.Proofs.YtipniinmajoolaaGreatDoor
