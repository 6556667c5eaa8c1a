/- Nodes of blocks turned into the package's blocks: impl.built at breaks, at texts, at paragraphs, at headings. Conditions: as each states them. -/
import Derived.Test.YtipniinmajoolaaGreatDoorBu2
namespace Go.Proofs.YtipniinmajoolaaGreatDoor
open Go.RowKit
/-- What impl.built gives of a block. -/
abbrev BuiltP (t : Bool) (y : ByteArray) (w : World) (e : Ending) (w' : World) : Prop := PutP (fun v w2 => PrK w2 v t y) w e w'
abbrev posV : Array Value := #[.int .i64 0, .int .i64 0]
abbrev boxed2 (w : World) (nd : Array Value) : World := (w.alloc (.cells nd 34)).alloc (.cells posV 60)
theorem size_boxed2 (w : World) (nd : Array Value) : (boxed2 w nd).heap.size = w.heap.size + 2 := by rw [World.size_alloc', World.size_alloc']
theorem below_boxed2 {w w1 : World} {nd : Array Value} (h : Below (boxed2 w nd).heap.size (boxed2 w nd) w1) (o' : Obj) : Below w.heap.size w (w1.alloc o') := by
  have h1 := (below2 w (.cells nd 34) (.cells posV 60)).trans (h.mono (by rw [size_boxed2]; omega))
  exact h1.alloc h1.size _
/-- The node and the place, behind a call. -/
theorem cells2 {w w1 : World} {nd : Array Value} (h : Below (boxed2 w nd).heap.size (boxed2 w nd) w1) : (∀ j, w1.cell? ⟨w.heap.size, j, none⟩ = nd[j]?) ∧ ∀ j, w1.cell? ⟨w.heap.size + 1, j, none⟩ = posV[j]? := by
  have e1 : ObjAt w1 w.heap.size nd 34 := (h.block _ (by rw [size_boxed2]; omega)).trans ((Below.heap_alloc _ _ _ (by rw [World.size_alloc']; omega)).trans (newB1 _ _))
  have e2 : ObjAt w1 (w.heap.size + 1) posV 60 := (h.block _ (by rw [size_boxed2]; omega)).trans (newB2 _ _ _)
  exact ⟨fun j => e1.cell j, fun j => e2.cell j⟩
theorem zzBreak_any (m : ByteArray) (w : World) : Calls Tryz.prog 23 #[.agg posV, .string m] w fun e w' => e = .returned (.iface 124 (ptr (w.heap.size + 1))) ∧ (w.alloc (.cells posV 60)).alloc (.cells #[.int .i64 0, .int .i64 0, .string m] 126) = w' := by
  go_enter Tryz.func23, Tryz.ntmps23
  go_wp2
  go_ret
  exact ⟨rfl, rfl⟩
set_option maxHeartbeats 1000000 in
set_option maxRecDepth 100000 in
theorem built_break (w : World) (m : ByteArray) : Calls Tryz.prog 12 #[.agg (iN 9 ⟨#[]⟩ ⟨#[]⟩ 0 ⟨#[]⟩ false (.slice none 0 0) m 0 false)] w (BuiltP false brHTML w) := by
  go_enter Tryz.func12, Tryz.ntmps12
  go_wp2_with (go_at_call 23; refine (zzBreak_any m _).mono ?_; rintro e w1 ⟨rfl, rfl⟩)
  go_ret
  have hsz := size_boxed2 w (iN 9 ⟨#[]⟩ ⟨#[]⟩ 0 ⟨#[]⟩ false (.slice none 0 0) m 0 false)
  refine ⟨_, _, rfl, fun w2 _ => ⟨_, _, _, rfl, disp_ThematicBreak, (fun h => absurd h (by decide)), fun _ => ⟨by decide, by decide, by decide⟩, break_prints w2 _⟩, ?_⟩
  exact below_boxed2 (w := w) (nd := iN 9 ⟨#[]⟩ ⟨#[]⟩ 0 ⟨#[]⟩ false (.slice none 0 0) m 0 false) (below1 _ _) _
set_option maxHeartbeats 1000000 in
set_option maxRecDepth 100000 in
theorem built_tight (w : World) (ks : Value) (n : Nat) (is : Nat → Inl) (hI : Inls 16 IInl w ks n is) : Calls Tryz.prog 12 #[.agg (iN 6 ⟨#[]⟩ ⟨#[]⟩ 0 ⟨#[]⟩ false ks ⟨#[]⟩ 0 true)] w (BuiltP true (catI is n) w) := by
  have TX := hide (text_any (boxed2 w (iN 6 ⟨#[]⟩ ⟨#[]⟩ 0 ⟨#[]⟩ false ks ⟨#[]⟩ 0 true)) 6 ⟨#[]⟩ ⟨#[]⟩ 0 ⟨#[]⟩ false ks ⟨#[]⟩ 0 true n is (hI.belowI (below2 _ _ _)))
  have hsh : ∃ (ao : Option Addr) (kn kc : Nat), ks = .slice ao kn kc := by
    obtain ⟨cs, hr, _⟩ := hI.row
    exact hr.shp
  obtain ⟨ao, kn, kc, rfl⟩ := hsh
  clear hI
  go_enter Tryz.func12, Tryz.ntmps12
  go_wp2_with (go_at_call 21; (with_reducible refine TX.out.mono ?_); rintro e w1 ⟨g1, rfl, hH, hb1⟩; have HH := hide hH; have HB := hide hb1; clear hH hb1)
  go_ret
  have hs := HB.out.size
  rw [size_boxed2] at hs
  refine ⟨_, g1, rfl, (HH.out.wide (by rw [size_boxed2]; omega) (Nat.le_refl _)).mono fun w2 h => ⟨_, _, _, rfl, disp_Text, fun _ => rfl, (fun h => absurd h (by decide)), fun w' B b tx a1 a2 a3 a4 a5 _ => h w' B b tx a1 a2 a3 a4 a5 trivial⟩, ?_⟩
  exact (below2 w _ _).trans (HB.out.mono (by rw [size_boxed2]; omega))
end Go.Proofs.YtipniinmajoolaaGreatDoor
