/- Nodes of blocks turned into the package's blocks, told by the HTML that these print: texts, rows of blocks, items. Conditions: as each states them. -/
import Derived.Test.YtipniinmajoolaaGreatDoorBuL
import Derived.Test.YtipniinmajoolaaGreatDoorPr4
import Derived.Test.YtipniinmajoolaaGreatDoorPr5
import Derived.Test.YtipniinmajoolaaGreatDoorPr7
namespace Go.Proofs.YtipniinmajoolaaGreatDoor
open Go.RowKit
theorem Inls.belowI {w w' : World} {ks : Value} {n : Nat} {is : Nat → Inl} (h : Inls 16 IInl w ks n is) (hb : Below w.heap.size w w') : Inls 16 IInl w' ks n is := h.below hb fun _ _ h => h.below hb
theorem ofDrew {B : Nat} {w w1 : World} (h : Below B w.drew w1) : Below B w w1 := ⟨h.os, h.tape, h.output, h.size, h.block⟩
/-- What impl.text gives. -/
def TextP (y : ByteArray) (w : World) (e : Ending) (w' : World) : Prop := ∃ g : Nat, e = .returned (ptr g) ∧ Held (fun w2 => PrB (fun _ => True) w2 g 115 y) w' w.heap.size w'.heap.size ∧ Below w.heap.size w w'
set_option maxHeartbeats 2000000 in
set_option maxRecDepth 100000 in
theorem text_any (w : World) (k : Int) (t ti : ByteArray) (num : Int) (c : ByteArray) (l : Bool) (ks : Value) (m : ByteArray) (wd : Int) (tg : Bool) (n : Nat) (is : Nat → Inl) (hI : Inls 16 IInl w ks n is) :
    Calls Tryz.prog 21 #[.agg (iN k t ti num c l ks m wd tg)] w (TextP (catI is n) w) := by
  have hsh : ∃ (ao : Option Addr) (kn kc : Nat), ks = .slice ao kn kc := by
    obtain ⟨cs, hr, _⟩ := hI.row
    exact hr.shp
  obtain ⟨ao, kn, kc, rfl⟩ := hsh
  have WR := hide (fun wx (hb : Below w.heap.size w wx) => written_inls wx _ n is (hI.belowI hb))
  have HC0 := hide (newB1 w (.cells (iN k t ti num c l (.slice ao kn kc) m wd tg) 34))
  clear hI
  go_enter Tryz.func21, Tryz.ntmps21
  go_wp2
  go_region_with (go_at_call 41; refine (WR.out _ ((below1 w _).drew)).mono ?_; rintro e w1 ⟨v, vs, rfl, hH, hb1⟩; obtain ⟨⟨ao1, cap1, rfl, _⟩, _⟩ := hH.now; have HH := hide hH; have HB := hide hb1; have hob : ObjAt w1 w.heap.size (iN k t ti num c l (.slice ao kn kc) m wd tg) 34 := (hb1.block _ (by simp)).trans HC0.out; have HC := fun j => hob.cell j; clear hH hb1 hob)
  all_goals
    go_wp2
    go_ret
    have hs := HB.out.size
    have hs0 : (w.alloc (.cells (iN k t ti num c l (.slice ao kn kc) m wd tg) 34)).drew.heap.size = w.heap.size + 1 := World.size_alloc' _ _
    rw [hs0] at hs
    exact ⟨_, rfl, (held_box (w := w) (w1 := w1) (HH.out.wide (Nat.le_refl _) (Nat.le_refl _)) (by rw [hs0]; omega) #[.int .i64 0, .int .i64 0, .slice ao1 n cap1, .string ⟨#[]⟩] 119 (by omega)).mono fun w2 h => text_prints w2 _ 0 0 ⟨#[]⟩ _ n vs _ h.1 h.2.1 h.2.2, below_box (w1 := w1) (ofDrew HB.out) _⟩
end Go.Proofs.YtipniinmajoolaaGreatDoor
