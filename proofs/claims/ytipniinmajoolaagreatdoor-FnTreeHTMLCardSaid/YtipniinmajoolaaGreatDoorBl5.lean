/- Some lines of a paragraph: builder.lines. Conditions: the builder's block holds at most 300 readable bytes. -/
import Derived.Test.YtipniinmajoolaaGreatDoorBl4
namespace Go.Proofs.YtipniinmajoolaaGreatDoor
open Go.RowKit
/-- A row of strings of the call's own: n of them, none longer than M. -/
def Strs (B : Nat) (w : World) (tv : Value) (n M : Nat) : Prop := ∃ ss : List ByteArray, ss.length = n ∧ w.ownsRow B 9 1 tv n (ss.map .string) ∧ ∀ s ∈ ss, s.size ≤ M
theorem Strs.move {B B' : Nat} {w w' : World} {tv : Value} {n M : Nat} (h : Strs B w tv n M) (hb : ∀ g, tv.ownBlock = some g → w'.heap[g]? = w.heap[g]?) (hB : B' ≤ B) : Strs B' w' tv n M := by
  obtain ⟨ss, h1, h2, h3⟩ := h
  exact ⟨ss, h1, own_move h2 hb hB, h3⟩
theorem Strs.lt {B : Nat} {w : World} {tv : Value} {n M : Nat} (h : Strs B w tv n M) : ∀ g, tv.ownBlock = some g → B ≤ g ∧ g < w.heap.size := by
  obtain ⟨ss, h1, h2, h3⟩ := h; exact h2.lt
theorem Strs.mono {B : Nat} {w : World} {tv : Value} {n M M' : Nat} (h : Strs B w tv n M) (hM : M ≤ M') : Strs B w tv n M' := by
  obtain ⟨ss, h1, h2, h3⟩ := h; exact ⟨ss, h1, h2, fun s hs => Nat.le_trans (h3 s hs) hM⟩
theorem Strs.nil (B : Nat) (w : World) (M : Nat) : Strs B w (.slice none 0 0) 0 M := ⟨[], rfl, World.ownsRow_nil _ _ _ _, fun s h => by simp at h⟩
theorem info_str : (Tryz.prog.info? 9).map (fun i => (i.zero, i.size, i.bytes)) = some (some (.string ⟨#[]⟩), 1, 16) := by kernel_rfl
/-- A block of the call's own, one of the older ones. -/
def ObjIs (w : World) (g : Nat) (cs : Array Value) (T : TypeId) : Prop := w.heap[g]? = some (.cells cs T (0, 0))
/-- What leaves all blocks but one, that is older than the rows, as they are. -/
theorem LSt.other {bb : Nat} {bv : Value} {N B r : Nat} {X : Nat → Prop} {w w' : World} {lv : Value} {is : List Inl} (h : LSt bb bv N B X w lv is) (hg : w.grownBy w' (some r)) (hr : r < B) (hb : bb < r) : LSt bb bv N B X w' lv is := by
  obtain ⟨⟨css, h1, h2, h3⟩, h4, h5, h6⟩ := h
  refine ⟨⟨css, h1.move (fun g e => hg.block g (h1.lt g e).2 (fun e2 => ?_)) (Nat.le_refl _), h2.keep hg.size (fun j a b _ => hg.block j b (fun e2 => ?_)) (fun g e => .inl e), h3⟩, h4.old hg.size (fun j hj => hg.block j (by have := h4.lt; omega) (fun e2 => ?_)), h5, Nat.le_trans h6 hg.size⟩
  · have := Option.some.inj e2
    have := (h1.lt g e).1
    omega
  · have := Option.some.inj e2; omega
  · have := Option.some.inj e2; omega
/-- Another row is written, and the rows keep away from it. -/
theorem LSt.away {bb : Nat} {bv : Value} {N B : Nat} {tv tv' : Value} {w w' : World} {lv : Value} {is : List Inl} (h : LSt bb bv N B (fun g => tv.ownBlock = some g) w lv is) (hg : w.grownBy w' tv.ownBlock) (ht : ∀ g, tv.ownBlock = some g → B ≤ g)
    (hd : ∀ g, lv.ownBlock = some g → tv.ownBlock ≠ some g) (hf : ∀ g, tv'.ownBlock = some g → tv.ownBlock = some g ∨ w.heap.size ≤ g) : LSt bb bv N B (fun g => tv'.ownBlock = some g) w' lv is := by
  obtain ⟨⟨css, h1, h2, h3⟩, h4, h5, h6⟩ := h
  refine ⟨⟨css, h1.move (fun g e => hg.block g (h1.lt g e).2 (fun e2 => hd g e e2.symm)) (Nat.le_refl _), h2.keep hg.size (fun j a b hA => hg.block j b (fun e2 => hA (.inr e2.symm))) (fun g e => ?_), h3⟩, h4.old hg.size (fun j hj => hg.block j (by have := h4.lt; omega) (fun e2 => ?_)), h5, Nat.le_trans h6 hg.size⟩
  · rcases e with e | e
    · exact .inl (.inl e)
    · rcases hf g e with q | q
      · exact .inl (.inr q)
      · exact .inr q
  · have := ht j e2.symm; omega
/-- builder.lines under way. -/
structure PSt (bb : Nat) (bv : Value) (N : Nat) (w : World) (rb pb B : Nat) (wr : World) (tv pv : Value) (k : Nat) (is : List Inl) : Prop where
  o1 : bb < w.heap.size
  o2 : w.heap.size ≤ rb
  o3 : rb < pb
  o4 : pb < B
  L : LSt bb bv N B (fun g => tv.ownBlock = some g) wr pv is
  G : w.grownBy wr (some bb)
  hp : ObjIs wr pb (sN 6 ⟨#[]⟩ ⟨#[]⟩ 0 ⟨#[]⟩ false pv 0 0) 27
  hr : ObjIs wr rb (sN 0 ⟨#[]⟩ ⟨#[]⟩ 0 ⟨#[]⟩ false (.slice none 0 0) 0 0) 27
  T : Strs B wr tv k 40
  D : ∀ g, pv.ownBlock = some g → tv.ownBlock ≠ some g
variable {bb : Nat} {bv : Value} {N : Nat} {w : World} {rb pb B : Nat} {wr : World} {tv pv : Value} {k : Nat} {is : List Inl}
theorem PSt.step {w' : World} (h : PSt bb bv N w rb pb B wr tv pv k is) (hB : BOk bb bv N w') (hg : wr.grownBy w' (some bb)) : PSt bb bv N w rb pb B w' tv pv k is := by
  have l1 := h.o1
  have l2 := h.o2
  have l3 := h.o3
  have l4 := h.o4
  have ls := h.L.2.2.2
  refine ⟨h.o1, h.o2, h.o3, h.o4, h.L.step hB hg, grown_trans h.G hg, (hg.block pb (by omega) (fun e => by have := Option.some.inj e; omega)).trans h.hp, (hg.block rb (by omega) (fun e => by have := Option.some.inj e; omega)).trans h.hr, h.T.move (fun g e => hg.block g (h.T.lt g e).2 (fun e2 => ?_)) (Nat.le_refl _), h.D⟩
  have := Option.some.inj e2
  have := (h.T.lt g e).1
  omega
theorem PSt.alloc (h : PSt bb bv N w rb pb B wr tv pv k is) (o : Obj) : PSt bb bv N w rb pb B (wr.alloc o) tv pv k is := h.step (h.L.2.1.alloc o) (World.grownBy_alloc _ _ _)
/-- The kids' row is grown, and stored into the paragraph. -/
theorem PSt.kids {w2 : World} {v' : Value} {is' : List Inl} (h : PSt bb bv N w rb pb B wr tv pv k is) (hL : LSt bb bv N B (fun g => tv.ownBlock = some g) w2 v' is') (hg : wr.grownBy w2 pv.ownBlock) (hf : ∀ g, v'.ownBlock = some g → pv.ownBlock = some g ∨ wr.heap.size ≤ g) :
    PSt bb bv N w rb pb B (w2.setCell ⟨pb, 7, none⟩ v') tv v' k is' := by
  have l1 := h.o1
  have l2 := h.o2
  have l3 := h.o3
  have l4 := h.o4
  have ls := h.L.2.2.2
  have ow : ∀ g, pv.ownBlock = some g → B ≤ g := h.L.own
  have hp2 : ObjIs w2 pb (sN 6 ⟨#[]⟩ ⟨#[]⟩ 0 ⟨#[]⟩ false pv 0 0) 27 := (hg.block pb (by omega) (fun e => by have := ow pb e.symm; omega)).trans h.hp
  have hr2 : ObjIs w2 rb (sN 0 ⟨#[]⟩ ⟨#[]⟩ 0 ⟨#[]⟩ false (.slice none 0 0) 0 0) 27 := (hg.block rb (by omega) (fun e => by have := ow rb e.symm; omega)).trans h.hr
  have hT2 : Strs B w2 tv k 40 := h.T.move (fun g e => hg.block g (h.T.lt g e).2 (fun e2 => h.D g e2.symm e)) (Nat.le_refl _)
  have hs := grown_setCell w2 pb 7 v'
  refine ⟨h.o1, h.o2, h.o3, h.o4, hL.other hs h.o4 (by omega), grown_own (grown_own h.G hg (fun g e => Nat.le_trans (by omega) (ow g e))) hs (fun g e => by have := Option.some.inj e; omega), heap_setCell_same w2 pb 7 _ _ v' hp2, (hs.block rb (by have := hg.size; omega) (fun e => by have := Option.some.inj e; omega)).trans hr2, hT2.move (fun g e => hs.block g (hT2.lt g e).2 (fun e2 => ?_)) (Nat.le_refl _), fun g e1 e2 => ?_⟩
  · have := Option.some.inj e2
    have := (hT2.lt g e).1
    omega
  · rcases hf g e1 with q | q
    · exact h.D g q e2
    · have := (h.T.lt g e2).2; omega
/-- A line of text is put behind the others. -/
theorem PSt.text {w2 : World} {x : ByteArray} {g cap : Nat} {ss : List ByteArray} (h : PSt bb bv N w rb pb B wr tv pv k is) (hx : x.size ≤ 40) (s1 : ss.length = k) (s3 : ∀ s ∈ ss, s.size ≤ 40) (h2 : w2.ownsRow B 9 1 (.slice (some ⟨g, 0, none⟩) (k + 1) cap) (k + 1) (ss.map .string ++ [.string x]))
    (hg : (wr.alloc (.cells #[.string x] 9)).grownBy w2 tv.ownBlock) (hat : tv.ownBlock = some g ∨ g = wr.heap.size + 1) : PSt bb bv N w rb pb B w2 (.slice (some ⟨g, 0, none⟩) (k + 1) cap) pv (k + 1) is := by
  have l1 := h.o1
  have l2 := h.o2
  have l3 := h.o3
  have l4 := h.o4
  have ls := h.L.2.2.2
  have ha := h.alloc (.cells #[.string x] 9)
  have hs1 : (wr.alloc (.cells #[.string x] 9)).heap.size = wr.heap.size + 1 := World.size_alloc' _ _
  have tw : ∀ g, tv.ownBlock = some g → B ≤ g := fun g e => (h.T.lt g e).1
  have hf : ∀ g', (Value.slice (some ⟨g, 0, none⟩) (k + 1) cap).ownBlock = some g' → tv.ownBlock = some g' ∨ wr.heap.size + 1 ≤ g' := fun g' e => by
    have e2 : g = g' := by simpa [Value.ownBlock] using e
    subst e2
    rcases hat with q | q
    · exact .inl q
    · exact .inr (by omega)
  refine ⟨h.o1, h.o2, h.o3, h.o4, ha.L.away hg tw h.D (by rw [hs1]; exact hf), grown_own ha.G hg (fun g e => Nat.le_trans (by omega) (tw g e)), (hg.block pb (by omega) (fun e => by have := tw pb e.symm; omega)).trans ha.hp, (hg.block rb (by omega) (fun e => by have := tw rb e.symm; omega)).trans ha.hr, ⟨ss ++ [x], by simp [s1], by rw [List.map_append]; exact h2, fun s hs => ?_⟩, fun g' e1 e2 => ?_⟩
  · rcases List.mem_append.1 hs with q | q
    · exact s3 s q
    · have : s = x := by simpa using q
      rw [this]; exact hx
  · rcases hf g' e2 with q | q
    · exact h.D g' e1 q
    · have := (h.L.own' g' e1).2; omega
end Go.Proofs.YtipniinmajoolaaGreatDoor
