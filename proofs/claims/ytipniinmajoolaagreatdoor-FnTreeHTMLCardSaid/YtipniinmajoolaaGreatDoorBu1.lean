/- Nodes of inlines turned into the package's inlines, told by the HTML that these print. Printed by gen_bu1.py. Conditions: as each states them. -/
import Derived.Test.YtipniinmajoolaaGreatDoorPr2
import Derived.Test.YtipniinmajoolaaGreatDoorPr6
import Derived.Test.YtipniinmajoolaaGreatDoorTr2
namespace Go.Proofs.YtipniinmajoolaaGreatDoor
open Go.RowKit
theorem disp_Plain : Disp Tryz.prog 178 "PrintHTML" 185 := by
  intro ρ o x y ty g w ho hx
  have hm : (method 333 178 (ptr g) "PrintHTML").run Tryz.prog w = .ok (185, ptr g) w := by kernel_rfl
  unfold execOp
  simp only [ho]
  simp [go_sem, hx, hm]
theorem disp_Code : Disp Tryz.prog 151 "PrintHTML" 149 := by
  intro ρ o x y ty g w ho hx
  have hm : (method 333 151 (ptr g) "PrintHTML").run Tryz.prog w = .ok (149, ptr g) w := by kernel_rfl
  unfold execOp
  simp only [ho]
  simp [go_sem, hx, hm]
theorem disp_SoftBreak : Disp Tryz.prog 146 "PrintHTML" 141 := by
  intro ρ o x y ty g w ho hx
  have hm : (method 333 146 (ptr g) "PrintHTML").run Tryz.prog w = .ok (141, ptr g) w := by kernel_rfl
  unfold execOp
  simp only [ho]
  simp [go_sem, hx, hm]
theorem disp_Emph : Disp Tryz.prog 154 "PrintHTML" 153 := by
  intro ρ o x y ty g w ho hx
  have hm : (method 333 154 (ptr g) "PrintHTML").run Tryz.prog w = .ok (153, ptr g) w := by kernel_rfl
  unfold execOp
  simp only [ho]
  simp [go_sem, hx, hm]
theorem disp_Strong : Disp Tryz.prog 157 "PrintHTML" 157 := by
  intro ρ o x y ty g w ho hx
  have hm : (method 333 157 (ptr g) "PrintHTML").run Tryz.prog w = .ok (157, ptr g) w := by kernel_rfl
  unfold execOp
  simp only [ho]
  simp [go_sem, hx, hm]
theorem disp_Link : Disp Tryz.prog 111 "PrintHTML" 134 := by
  intro ρ o x y ty g w ho hx
  have hm : (method 333 111 (ptr g) "PrintHTML").run Tryz.prog w = .ok (134, ptr g) w := by kernel_rfl
  unfold execOp
  simp only [ho]
  simp [go_sem, hx, hm]
theorem disp_Text : Disp Tryz.prog 77 "PrintHTML" 115 := by
  intro ρ o x y ty g w ho hx
  have hm : (method 333 77 (ptr g) "PrintHTML").run Tryz.prog w = .ok (115, ptr g) w := by kernel_rfl
  unfold execOp
  simp only [ho]
  simp [go_sem, hx, hm]
theorem disp_Paragraph : Disp Tryz.prog 81 "PrintHTML" 118 := by
  intro ρ o x y ty g w ho hx
  have hm : (method 333 81 (ptr g) "PrintHTML").run Tryz.prog w = .ok (118, ptr g) w := by kernel_rfl
  unfold execOp
  simp only [ho]
  simp [go_sem, hx, hm]
theorem disp_Heading : Disp Tryz.prog 76 "PrintHTML" 110 := by
  intro ρ o x y ty g w ho hx
  have hm : (method 333 76 (ptr g) "PrintHTML").run Tryz.prog w = .ok (110, ptr g) w := by kernel_rfl
  unfold execOp
  simp only [ho]
  simp [go_sem, hx, hm]
theorem disp_ThematicBreak : Disp Tryz.prog 124 "PrintHTML" 136 := by
  intro ρ o x y ty g w ho hx
  have hm : (method 333 124 (ptr g) "PrintHTML").run Tryz.prog w = .ok (136, ptr g) w := by kernel_rfl
  unfold execOp
  simp only [ho]
  simp [go_sem, hx, hm]
theorem disp_CodeBlock : Disp Tryz.prog 84 "PrintHTML" 120 := by
  intro ρ o x y ty g w ho hx
  have hm : (method 333 84 (ptr g) "PrintHTML").run Tryz.prog w = .ok (120, ptr g) w := by kernel_rfl
  unfold execOp
  simp only [ho]
  simp [go_sem, hx, hm]
theorem disp_Quote : Disp Tryz.prog 68 "PrintHTML" 86 := by
  intro ρ o x y ty g w ho hx
  have hm : (method 333 68 (ptr g) "PrintHTML").run Tryz.prog w = .ok (86, ptr g) w := by kernel_rfl
  unfold execOp
  simp only [ho]
  simp [go_sem, hx, hm]
theorem disp_List : Disp Tryz.prog 71 "PrintHTML" 94 := by
  intro ρ o x y ty g w ho hx
  have hm : (method 333 71 (ptr g) "PrintHTML").run Tryz.prog w = .ok (94, ptr g) w := by kernel_rfl
  unfold execOp
  simp only [ho]
  simp [go_sem, hx, hm]
theorem disp_Item : Disp Tryz.prog 137 "PrintHTML" 138 := by
  intro ρ o x y ty g w ho hx
  have hm : (method 333 137 (ptr g) "PrintHTML").run Tryz.prog w = .ok (138, ptr g) w := by kernel_rfl
  unfold execOp
  simp only [ho]
  simp [go_sem, hx, hm]
theorem disp_Document : Disp Tryz.prog 61 "PrintHTML" 84 := by
  intro ρ o x y ty g w ho hx
  have hm : (method 333 61 (ptr g) "PrintHTML").run Tryz.prog w = .ok (84, ptr g) w := by kernel_rfl
  unfold execOp
  simp only [ho]
  simp [go_sem, hx, hm]
/-- A new block, beside what holds of the blocks from lo on. -/
theorem held_box {K : World → Prop} {w w1 : World} {lo : Nat} (h : Held K w1 lo w1.heap.size) (hlo : w.heap.size ≤ lo) (cs : Array Value) (T : TypeId) (hw : w.heap.size ≤ w1.heap.size) :
    Held (fun w2 => ObjAt w2 w1.heap.size cs T ∧ K w2) (w1.alloc (.cells cs T)) w.heap.size (w1.alloc (.cells cs T)).heap.size := by
  intro w2 h2
  rw [World.size_alloc'] at h2
  refine ⟨(h2 _ hw (by omega)).trans (newB1 _ _), h w2 fun j a b => ?_⟩
  rw [h2 j (by omega) (by omega)]
  exact Below.heap_alloc _ _ _ b
theorem held_true (w : World) (lo hi : Nat) : Held (fun _ => True) w lo hi := fun _ _ => trivial
theorem Held.mono {K K' : World → Prop} {w : World} {lo hi : Nat} (h : Held K w lo hi) (hk : ∀ w2, K w2 → K' w2) : Held K' w lo hi := fun w2 h2 => hk _ (h w2 h2)
theorem below1 (w : World) (o : Obj) : Below w.heap.size w (w.alloc o) := (Below.refl _ _).alloc (Nat.le_refl _) _
theorem below2 (w : World) (o o' : Obj) : Below w.heap.size w ((w.alloc o).alloc o') := (below1 w o).alloc (by rw [World.size_alloc']; omega) _
/-- Behind a call from the boxed node on, a box. -/
theorem below_box {w w1 : World} {o : Obj} (h : Below (w.alloc o).heap.size (w.alloc o) w1) (o' : Obj) : Below w.heap.size w (w1.alloc o') := by
  have h1 := (below1 w o).trans (h.mono (by rw [World.size_alloc']; omega))
  exact h1.alloc h1.size _
abbrev plainI (x : ByteArray) : Array Value := iN 20 x ⟨#[]⟩ 0 ⟨#[]⟩ false (.slice none 0 0) ⟨#[]⟩ 0 false
theorem first_empty (w : World) : Calls Tryz.prog 38 #[.string ⟨#[]⟩] w fun e w' => e = .returned (.int .u8 0) ∧ w = w' := by
  go_enter Tryz.func38, Tryz.ntmps38
  go_wp2
  go_ret
  exact ⟨rfl, rfl⟩
set_option maxHeartbeats 1000000 in
set_option maxRecDepth 100000 in
theorem put_plain_any (x : ByteArray) (w : World) (hx : x.size ≤ 1000000) : Calls Tryz.prog 52 #[.agg (iN 20 x ⟨#[]⟩ 0 ⟨#[]⟩ false (.slice none 0 0) ⟨#[]⟩ 0 false)] w (PutP (fun v w2 => PrI w2 v (escF x x.size)) w) := by
  go_enter Tryz.func52, Tryz.ntmps52
  go_wp2_with (go_at_call 41; refine (written_nil _).mono ?_; rintro e w' ⟨rfl, rfl⟩)
  go_ret
  have hB := held_box (w := w) (w1 := w.alloc (.cells (iN 20 x ⟨#[]⟩ 0 ⟨#[]⟩ false (.slice none 0 0) ⟨#[]⟩ 0 false) 34)) (lo := w.heap.size) (held_true _ _ _) (Nat.le_refl _) #[.string x] 175 (by rw [World.size_alloc']; omega)
  rw [World.size_alloc' w] at hB
  exact ⟨178, w.heap.size + 1, rfl, hB.mono fun w2 h => ⟨_, _, _, rfl, disp_Plain, plain_prints w2 _ x h.1 hx⟩, below2 _ _ _⟩
set_option maxHeartbeats 1000000 in
set_option maxRecDepth 100000 in
theorem put_span_any (x : ByteArray) (w : World) (hx : x.size ≤ 1000000) : Calls Tryz.prog 52 #[.agg (iN 23 x ⟨#[]⟩ 0 ⟨#[]⟩ false (.slice none 0 0) ⟨#[]⟩ 0 false)] w (PutP (fun v w2 => PrI w2 v (codeS x)) w) := by
  go_enter Tryz.func52, Tryz.ntmps52
  go_wp2_with (go_at_call 41; refine (written_nil _).mono ?_; rintro e w' ⟨rfl, rfl⟩)
  go_ret
  have hB := held_box (w := w) (w1 := w.alloc (.cells (iN 23 x ⟨#[]⟩ 0 ⟨#[]⟩ false (.slice none 0 0) ⟨#[]⟩ 0 false) 34)) (lo := w.heap.size) (held_true _ _ _) (Nat.le_refl _) #[.string x] 153 (by rw [World.size_alloc']; omega)
  rw [World.size_alloc' w] at hB
  exact ⟨151, w.heap.size + 1, rfl, hB.mono fun w2 h => ⟨_, _, _, rfl, disp_Code, code_prints w2 _ x h.1 hx⟩, below2 _ _ _⟩
set_option maxHeartbeats 1000000 in
set_option maxRecDepth 100000 in
theorem put_soft_any (w : World) : Calls Tryz.prog 52 #[.agg (iN 21 ⟨#[]⟩ ⟨#[]⟩ 0 ⟨#[]⟩ false (.slice none 0 0) ⟨#[]⟩ 0 false)] w (PutP (fun v w2 => PrI w2 v (⟨#[10]⟩)) w) := by
  go_enter Tryz.func52, Tryz.ntmps52
  go_wp2_with (go_at_call 41; refine (written_nil _).mono ?_; rintro e w' ⟨rfl, rfl⟩)
  go_ret
  have hB := held_box (w := w) (w1 := w.alloc (.cells (iN 21 ⟨#[]⟩ ⟨#[]⟩ 0 ⟨#[]⟩ false (.slice none 0 0) ⟨#[]⟩ 0 false) 34)) (lo := w.heap.size) (held_true _ _ _) (Nat.le_refl _) #[] 148 (by rw [World.size_alloc']; omega)
  rw [World.size_alloc' w] at hB
  exact ⟨146, w.heap.size + 1, rfl, hB.mono fun w2 h => ⟨_, _, _, rfl, disp_SoftBreak, soft_prints w2 _⟩, below2 _ _ _⟩
/-- The one plain text within an inline. -/
theorem written_one (w : World) (ks : Value) (x : ByteArray) (hx : x.size ≤ 1000000) (hr : RowN 16 w ks 1 (fun _ => plainI x)) :
    Calls Tryz.prog 41 #[ks] w fun e w' => ∃ (g cap : Nat) (vs : Nat → Value), e = .returned (.slice (some ⟨g, 0, none⟩) 1 cap) ∧ Held (fun w2 => RowIs 141 w2 (.slice (some ⟨g, 0, none⟩) 1 cap) 1 vs ∧ ∀ k, k < 1 → PrI w2 (vs k) (escF x x.size)) w' w.heap.size w'.heap.size ∧ Below w.heap.size w w' := by
  rcases hr with ⟨h, _⟩ | ⟨r, cap0, rfl, _, _, _, hlt, hc⟩
  · omega
  refine (written_of r 1 cap0 (fun _ => plainI x) (fun _ v w2 => PrI w2 v (escF x x.size)) w (by omega) (by omega) hc hlt (fun _ _ => ⟨rfl, by simp [Value.oneCell']⟩) (fun _ _ W _ => put_plain_any x W hx)).mono ?_
  rintro e w' ⟨g, cap, vs, rfl, h1, h2, h3, h4⟩
  exact ⟨g, cap, vs, rfl, h3.mono fun w2 h => ⟨⟨_, _, rfl, by omega, fun _ => ⟨g, rfl, h.1⟩⟩, h.2⟩, h4⟩
theorem RowN.shp {sz : Nat} {w : World} {ks : Value} {n : Nat} {cs : Nat → Array Value} (h : RowN sz w ks n cs) : ∃ (ao : Option Addr) (kn kc : Nat), ks = .slice ao kn kc := by
  rcases h with ⟨_, rfl⟩ | ⟨g, cap, rfl, _⟩
  · exact ⟨_, _, _, rfl⟩
  · exact ⟨_, _, _, rfl⟩
set_option maxHeartbeats 1000000 in
set_option maxRecDepth 100000 in
theorem put_emph_any (x : ByteArray) (ks : Value) (w : World) (hx : x.size ≤ 1000000) (hr : RowN 16 w ks 1 (fun _ => plainI x)) :
    Calls Tryz.prog 52 #[.agg (iN 24 ⟨#[]⟩ ⟨#[]⟩ 0 ⟨#[]⟩ false ks ⟨#[42]⟩ 0 false)] w (PutP (fun v w2 => PrI w2 v ((⟨#[60, 101, 109, 62]⟩ : ByteArray) ++ escF x x.size ++ (⟨#[60, 47, 101, 109, 62]⟩ : ByteArray))) w) := by
  have WR := hide (written_one (w.alloc (.cells (iN 24 ⟨#[]⟩ ⟨#[]⟩ 0 ⟨#[]⟩ false ks ⟨#[42]⟩ 0 false) 34)) ks x hx (hr.below (below1 _ _)))
  obtain ⟨ao, kn, kc, rfl⟩ := hr.shp
  clear hr
  go_enter Tryz.func52, Tryz.ntmps52
  go_wp2_with (go_at_call 41; (with_reducible refine WR.out.mono ?_); rintro e w1 ⟨g1, cap1, vs, rfl, hH, hb1⟩; have HH := hide hH; have HB := hide hb1; have hob : ObjAt w1 w.heap.size (iN 24 ⟨#[]⟩ ⟨#[]⟩ 0 ⟨#[]⟩ false (.slice ao kn kc) ⟨#[42]⟩ 0 false) 34 := (hb1.block _ (by rw [World.size_alloc']; omega)).trans (newB1 _ _); have HC := fun j => hob.cell j; clear hH hb1 hob)
  go_ret
  have hs := HB.out.size
  rw [World.size_alloc'] at hs
  refine ⟨154, _, rfl, (held_box (w := w) (HH.out.wide (Nat.le_refl _) (Nat.le_refl _)) (by rw [World.size_alloc']; omega) #[.string ⟨#[42]⟩, .slice (some ⟨g1, 0, none⟩) 1 cap1] 156 (show w.heap.size ≤ w1.heap.size by omega)).mono fun w2 h => ⟨_, _, _, rfl, disp_Emph, ?_⟩, below_box HB.out _⟩
  have := emph_prints w2 _ ⟨#[42]⟩ _ 1 vs (fun _ => escF x x.size) h.1 h.2.1 h.2.2
  rwa [show catY (fun _ => escF x x.size) 1 = escF x x.size from ByteArray.empty_append] at this
set_option maxHeartbeats 1000000 in
set_option maxRecDepth 100000 in
theorem put_strong_any (x : ByteArray) (ks : Value) (w : World) (hx : x.size ≤ 1000000) (hr : RowN 16 w ks 1 (fun _ => plainI x)) :
    Calls Tryz.prog 52 #[.agg (iN 25 ⟨#[]⟩ ⟨#[]⟩ 0 ⟨#[]⟩ false ks ⟨#[42, 42]⟩ 0 false)] w (PutP (fun v w2 => PrI w2 v ((⟨#[60, 115, 116, 114, 111, 110, 103, 62]⟩ : ByteArray) ++ escF x x.size ++ (⟨#[60, 47, 115, 116, 114, 111, 110, 103, 62]⟩ : ByteArray))) w) := by
  have WR := hide (written_one (w.alloc (.cells (iN 25 ⟨#[]⟩ ⟨#[]⟩ 0 ⟨#[]⟩ false ks ⟨#[42, 42]⟩ 0 false) 34)) ks x hx (hr.below (below1 _ _)))
  obtain ⟨ao, kn, kc, rfl⟩ := hr.shp
  clear hr
  go_enter Tryz.func52, Tryz.ntmps52
  go_wp2_with (go_at_call 41; (with_reducible refine WR.out.mono ?_); rintro e w1 ⟨g1, cap1, vs, rfl, hH, hb1⟩; have HH := hide hH; have HB := hide hb1; have hob : ObjAt w1 w.heap.size (iN 25 ⟨#[]⟩ ⟨#[]⟩ 0 ⟨#[]⟩ false (.slice ao kn kc) ⟨#[42, 42]⟩ 0 false) 34 := (hb1.block _ (by rw [World.size_alloc']; omega)).trans (newB1 _ _); have HC := fun j => hob.cell j; clear hH hb1 hob)
  go_ret
  have hs := HB.out.size
  rw [World.size_alloc'] at hs
  refine ⟨157, _, rfl, (held_box (w := w) (HH.out.wide (Nat.le_refl _) (Nat.le_refl _)) (by rw [World.size_alloc']; omega) #[.string ⟨#[42, 42]⟩, .slice (some ⟨g1, 0, none⟩) 1 cap1] 158 (show w.heap.size ≤ w1.heap.size by omega)).mono fun w2 h => ⟨_, _, _, rfl, disp_Strong, ?_⟩, below_box HB.out _⟩
  have := strong_prints w2 _ ⟨#[42, 42]⟩ _ 1 vs (fun _ => escF x x.size) h.1 h.2.1 h.2.2
  rwa [show catY (fun _ => escF x x.size) 1 = escF x x.size from ByteArray.empty_append] at this
set_option maxHeartbeats 1000000 in
set_option maxRecDepth 100000 in
theorem put_link_any (d x : ByteArray) (ks : Value) (w : World) (hx : x.size ≤ 1000000) (hd : d.size ≤ 1000000) (hu : Url d) (hr : RowN 16 w ks 1 (fun _ => plainI x)) :
    Calls Tryz.prog 52 #[.agg (iN 27 d ⟨#[]⟩ 0 ⟨#[]⟩ false ks ⟨#[]⟩ 0 false)] w (PutP (fun v w2 => PrI w2 v (((⟨#[60, 97, 32, 104, 114, 101, 102, 61, 34]⟩ : ByteArray) ++ d ++ (⟨#[34]⟩ : ByteArray) ++ (⟨#[62]⟩ : ByteArray)) ++ escF x x.size ++ (⟨#[60, 47, 97, 62]⟩ : ByteArray))) w) := by
  have WR := hide (written_one (w.alloc (.cells (iN 27 d ⟨#[]⟩ 0 ⟨#[]⟩ false ks ⟨#[]⟩ 0 false) 34)) ks x hx (hr.below (below1 _ _)))
  obtain ⟨ao, kn, kc, rfl⟩ := hr.shp
  clear hr
  go_enter Tryz.func52, Tryz.ntmps52
  go_wp2_with (go_at_call 41; (with_reducible refine WR.out.mono ?_); rintro e w1 ⟨g1, cap1, vs, rfl, hH, hb1⟩; have HH := hide hH; have HB := hide hb1; have hob : ObjAt w1 w.heap.size (iN 27 d ⟨#[]⟩ 0 ⟨#[]⟩ false (.slice ao kn kc) ⟨#[]⟩ 0 false) 34 := (hb1.block _ (by rw [World.size_alloc']; omega)).trans (newB1 _ _); have HC := fun j => hob.cell j; clear hH hb1 hob)
  have hs := HB.out.size
  rw [World.size_alloc'] at hs
  go_region_with (go_at_call 38; refine (first_empty _).mono ?_; rintro e wf ⟨rfl, rfl⟩)
  all_goals
    go_wp2
    go_ret
    refine ⟨111, _, rfl, (held_box (w := w) (w1 := w1.drew) (Held.wide (w := w1.drew) HH.out (Nat.le_refl _) (Nat.le_refl _)) (by rw [World.size_alloc']; omega) #[.slice (some ⟨g1, 0, none⟩) 1 cap1, .string d, .string ⟨#[]⟩, .int .u8 0, .bool false] 115 (show w.heap.size ≤ w1.heap.size by omega)).mono fun w2 h => ⟨_, _, _, rfl, disp_Link, ?_⟩, below_box (w1 := w1.drew) HB.out.drew _⟩
    have := link_prints w2 _ d 0 _ 1 vs (fun _ => escF x x.size) h.1 h.2.1 h.2.2 hd hu
    rwa [show catY (fun _ => escF x x.size) 1 = escF x x.size from ByteArray.empty_append] at this
theorem put_inl (i : Inl) (hok : i.ok) (w : World) (cs : Array Value) (h : IInl w cs i) : Calls Tryz.prog 52 #[.agg cs] w (PutP (fun v w2 => PrI w2 v i.h) w) := by
  obtain ⟨ks, rfl, hr⟩ := h
  obtain ⟨h1, h2, h3⟩ := hok
  cases i with
  | plain x =>
    obtain rfl : ks = .slice none 0 0 := by
      rcases hr with h | ⟨_, _, _, h, _⟩
      · exact h.2
      · exact absurd h (by simp [Inl.n])
    exact put_plain_any x w (by simp only [Inl.x] at h2; omega)
  | soft =>
    obtain rfl : ks = .slice none 0 0 := by
      rcases hr with h | ⟨_, _, _, h, _⟩
      · exact h.2
      · exact absurd h (by simp [Inl.n])
    exact put_soft_any w
  | span x =>
    obtain rfl : ks = .slice none 0 0 := by
      rcases hr with h | ⟨_, _, _, h, _⟩
      · exact h.2
      · exact absurd h (by simp [Inl.n])
    exact put_span_any x w (by simp only [Inl.x] at h2; omega)
  | emph x => exact put_emph_any x ks w (by simp only [Inl.x] at h2; omega) hr
  | strong x => exact put_strong_any x ks w (by simp only [Inl.x] at h2; omega) hr
  | link d x =>
    refine put_link_any d x ks w (by simp only [Inl.x] at h2; omega) (by simp only [Inl.t] at h1; omega) ?_ hr
    rcases h3 with h | h
    · simp [Inl.n] at h
    · exact h
theorem iinl_form {w : World} {cs : Array Value} {i : Inl} (h : IInl w cs i) : cs.size = 16 ∧ cs.all (·.oneCell') = true := by
  obtain ⟨ks, rfl, hr⟩ := h
  obtain ⟨ao, kn, kc, rfl⟩ := hr.shp
  exact ⟨rfl, by simp [Value.oneCell']⟩
/-- A row of inlines. -/
theorem written_inls (w : World) (ks : Value) (n : Nat) (is : Nat → Inl) (hI : Inls 16 IInl w ks n is) :
    Calls Tryz.prog 41 #[ks] w fun e w' => ∃ (v : Value) (vs : Nat → Value), e = .returned v ∧ Held (fun w2 => RowIs 141 w2 v n vs ∧ ∀ k, k < n → PrI w2 (vs k) (is k).h) w' w.heap.size w'.heap.size ∧ Below w.heap.size w w' := by
  obtain ⟨cs, hr, hk⟩ := hI.row
  have hle := hI.le
  rcases hr with ⟨rfl, rfl⟩ | ⟨r, cap0, rfl, h0, _, _, hlt, hc⟩
  · refine (written_nil w).mono ?_
    rintro e w' ⟨rfl, rfl⟩
    exact ⟨_, fun _ => .nilIface, rfl, fun w2 _ => ⟨⟨none, 0, rfl, by omega, fun h => absurd h (by omega)⟩, fun k h => absurd h (by omega)⟩, Below.refl _ _⟩
  · refine (written_of r n cap0 cs (fun k v w2 => PrI w2 v (is k).h) w (by omega) h0 hc hlt (fun k hlt => iinl_form (hk k hlt)) (fun k hlt W hb => put_inl (is k) (hI.ok k hlt) W _ ((hk k hlt).below hb))).mono ?_
    rintro e w' ⟨g, cap, vs, rfl, h1, h2, h3, h4⟩
    exact ⟨_, vs, rfl, h3.mono fun w2 h => ⟨⟨_, _, rfl, by omega, fun _ => ⟨g, rfl, h.1⟩⟩, h.2⟩, h4⟩
end Go.Proofs.YtipniinmajoolaaGreatDoor
