/- The builder's calls under way, in general: a row of texts, a row of nodes, what else is kept. Plain laws over worlds. Conditions: as each states them. -/
import Derived.Test.YtipniinmajoolaaGreatDoorBl8
namespace Go.Proofs.YtipniinmajoolaaGreatDoor
open Go.RowKit
structure Core {ι : Type} (R : World → Array Value → ι → Prop) (bb : Nat) (bv : Value) (N : Nat) (w : World) (B : Nat) (X : Nat → Prop) (E : World → Prop) (wr : World) (tv : Value) (tn M : Nat) (nv : Value) (xs : List ι) : Prop where
  o1 : bb < w.heap.size
  o2 : w.heap.size ≤ B
  o3 : B ≤ wr.heap.size
  G : w.grownBy wr (some bb)
  b : BOk bb bv N wr
  T : Strs B wr tv tn M
  K : ∃ css, OwnR wr B 27 10 nv css ∧ Ent R B (av nv (av tv X)) css xs wr ∧ (css = [] → nv = .slice none 0 0)
  D : ∀ g, nv.ownBlock = some g → tv.ownBlock ≠ some g
  X1 : ∀ g, X g → g < wr.heap.size ∧ w.heap.size ≤ g ∧ nv.ownBlock ≠ some g ∧ tv.ownBlock ≠ some g
  E1 : Side B (av nv (av tv X)) E wr
section
variable {ι : Type} {R : World → Array Value → ι → Prop} {bb : Nat} {bv : Value} {N : Nat} {w : World} {B : Nat} {X : Nat → Prop} {E : World → Prop} {wr : World} {tv : Value} {tn M : Nat} {nv : Value} {xs : List ι}
theorem Core.own (h : Core R bb bv N w B X E wr tv tn M nv xs) : ∀ g, nv.ownBlock = some g → B ≤ g ∧ g < wr.heap.size := by
  obtain ⟨css, h1, _⟩ := h.K
  exact fun g hg => h1.lt g hg
theorem Core.avlt (h : Core R bb bv N w B X E wr tv tn M nv xs) : ∀ g, av nv (av tv X) g → g < wr.heap.size := fun g hg => by
  rcases hg with q | q | q
  · exact (h.own g q).2
  · exact (h.T.lt g q).2
  · exact (h.X1 g q).1
/-- Blocks that are no rows' and that nothing speaks of are written, or older ones. -/
theorem Core.frame (h : Core R bb bv N w B X E wr tv tn M nv xs) {w' : World} {r : Nat} (hg : wr.grownBy w' (some r)) (hr : X r ∨ (r < B ∧ (r = bb ∨ w.heap.size ≤ r))) (hB : BOk bb bv N w') : Core R bb bv N w B X E w' tv tn M nv xs := by
  have o1 := h.o1
  have o2 := h.o2
  have hno : ∀ j, B ≤ j → ¬ X j → some j ≠ some r := fun j a b e => by
    have e2 := Option.some.inj e
    rcases hr with q | q
    · exact b (by rw [e2]; exact q)
    · omega
  have hkeep : ∀ j, B ≤ j → j < wr.heap.size → ¬ av nv (av tv X) j → w'.heap[j]? = wr.heap[j]? := fun j a b c => hg.block j b (hno j a (fun q => c (.inr (.inr q))))
  obtain ⟨css, h1, h2, h3⟩ := h.K
  refine ⟨h.o1, h.o2, Nat.le_trans h.o3 hg.size, ?_, hB, h.T.move (fun g e => hg.block g (h.T.lt g e).2 (hno g (h.T.lt g e).1 (fun q => (h.X1 g q).2.2.2 e))) (Nat.le_refl _), ⟨css, h1.move (fun g e => hg.block g (h1.lt g e).2 (hno g (h1.lt g e).1 (fun q => (h.X1 g q).2.2.1 e))) (Nat.le_refl _), h2.keep hg.size hkeep (fun _ h => .inl h), h3⟩, h.D, fun g q => ?_, h.E1.keep hg.size hkeep (fun _ h => .inl h)⟩
  · by_cases e : r = bb
    · subst e; exact grown_trans h.G hg
    · refine grown_own h.G hg (fun k hk => ?_)
      have e2 := Option.some.inj hk
      subst e2
      rcases hr with q | q
      · exact (h.X1 _ q).2.1
      · omega
  · obtain ⟨a, b⟩ := h.X1 g q
    exact ⟨Nat.lt_of_lt_of_le a hg.size, b⟩
theorem Core.step (h : Core R bb bv N w B X E wr tv tn M nv xs) {w' : World} (hB : BOk bb bv N w') (hg : wr.grownBy w' (some bb)) : Core R bb bv N w B X E w' tv tn M nv xs :=
  h.frame hg (.inr ⟨by have := h.o1; have := h.o2; omega, .inl rfl⟩) hB
/-- A block that is neither the builder's nor a row's is written. -/
theorem Core.write (h : Core R bb bv N w B X E wr tv tn M nv xs) {w' : World} {r : Nat} (hg : wr.grownBy w' (some r)) (hr : X r ∨ (r < B ∧ w.heap.size ≤ r)) : Core R bb bv N w B X E w' tv tn M nv xs := by
  have hlt : bb < r := by
    rcases hr with q | q
    · have := (h.X1 r q).2.1; have := h.o1; omega
    · have := h.o1; omega
  refine h.frame hg (hr.elim .inl fun q => .inr ⟨q.1, .inr q.2⟩) (h.b.old hg.size fun j hj => hg.block j (by have := h.b.lt; omega) (fun e => ?_))
  have := Option.some.inj e; omega
theorem Core.cell (h : Core R bb bv N w B X E wr tv tn M nv xs) (r j : Nat) (u : Value) (hr : X r ∨ (r < B ∧ w.heap.size ≤ r)) : Core R bb bv N w B X E (wr.setCell ⟨r, j, none⟩ u) tv tn M nv xs :=
  h.write (grown_setCell wr r j u) hr
theorem Core.old (h : Core R bb bv N w B X E wr tv tn M nv xs) {w' : World} (hb : Below wr.heap.size wr w') : Core R bb bv N w B X E w' tv tn M nv xs :=
  h.step (h.b.old hb.size fun j hj => hb.block j (by have := h.b.lt; omega)) ⟨hb.os, hb.tape, hb.output, hb.size, fun k hk _ => hb.block k hk⟩
theorem Core.alloc (h : Core R bb bv N w B X E wr tv tn M nv xs) (o : Obj) : Core R bb bv N w B X E (wr.alloc o) tv tn M nv xs := h.old ((Below.refl _ _).alloc (Nat.le_refl _) _)
theorem Core.addX (h : Core R bb bv N w B X E wr tv tn M nv xs) (o : Obj) : Core R bb bv N w B (fun g => X g ∨ g = wr.heap.size) E (wr.alloc o) tv tn M nv xs := by
  have h2 := h.alloc o
  have hs : (wr.alloc o).heap.size = wr.heap.size + 1 := World.size_alloc' _ _
  have ha : ∀ g, av nv (av tv (fun g => X g ∨ g = wr.heap.size)) g → av nv (av tv X) g ∨ wr.heap.size ≤ g := fun g q => by
    rcases q with q | q | q | q
    · exact .inl (.inl q)
    · exact .inl (.inr (.inl q))
    · exact .inl (.inr (.inr q))
    · exact .inr (by omega)
  obtain ⟨css, h3, h4, h5⟩ := h.K
  refine ⟨h2.o1, h2.o2, h2.o3, h2.G, h2.b, h2.T, ⟨css, h3.move (fun g e => Below.heap_alloc _ _ _ (h3.lt g e).2) (Nat.le_refl _), h4.keep (by omega) (fun j _ b _ => Below.heap_alloc _ _ _ b) ha, h5⟩, h.D, fun g q => ?_, h.E1.keep (by omega) (fun j _ b _ => Below.heap_alloc _ _ _ b) ha⟩
  rcases q with q | q
  · obtain ⟨a, b⟩ := h.X1 g q
    exact ⟨by omega, b⟩
  · have o2 := h.o2
    have o3 := h.o3
    exact ⟨by omega, by omega, fun e => by have := (h.own g e).2; omega, fun e => by have := (h.T.lt g e).2; omega⟩
theorem Core.dropX {X' : Nat → Prop} (h : Core R bb bv N w B X E wr tv tn M nv xs) (hx : ∀ g, X' g → X g) : Core R bb bv N w B X' E wr tv tn M nv xs := by
  have ha : ∀ g, av nv (av tv X') g → av nv (av tv X) g ∨ wr.heap.size ≤ g := fun g q => by
    rcases q with q | q | q
    · exact .inl (.inl q)
    · exact .inl (.inr (.inl q))
    · exact .inl (.inr (.inr (hx g q)))
  obtain ⟨css, h3, h4, h5⟩ := h.K
  exact ⟨h.o1, h.o2, h.o3, h.G, h.b, h.T, ⟨css, h3, h4.keep (Nat.le_refl _) (fun _ _ _ _ => rfl) ha, h5⟩, h.D, fun g q => h.X1 g (hx g q), h.E1.keep (Nat.le_refl _) (fun _ _ _ _ => rfl) ha⟩
/-- A callee's result is kept beside. -/
theorem Core.setE {E' : World → Prop} (h : Core R bb bv N w B X E wr tv tn M nv xs) {w' : World} (hB : BOk bb bv N w') (hg : wr.grownBy w' (some bb)) (hE : Side wr.heap.size (fun _ => False) E' w') : Core R bb bv N w B X E' w' tv tn M nv xs := by
  have h2 := h.step hB hg
  exact ⟨h2.o1, h2.o2, h2.o3, h2.G, h2.b, h2.T, h2.K, h2.D, h2.X1, (hE.avoid h.avlt).base h.o3⟩
theorem Core.monoE {E' : World → Prop} (h : Core R bb bv N w B X E wr tv tn M nv xs) (hE : ∀ w2, E w2 → E' w2) : Core R bb bv N w B X E' wr tv tn M nv xs :=
  ⟨h.o1, h.o2, h.o3, h.G, h.b, h.T, h.K, h.D, h.X1, h.E1.mono hE⟩
/-- The row of texts is grown. -/
theorem Core.text (h : Core R bb bv N w B X E wr tv tn M nv xs) {w2 : World} {tv' : Value} {n' : Nat} (hT : Strs B w2 tv' n' M) (hg : wr.grownBy w2 tv.ownBlock) (hf : ∀ g, tv'.ownBlock = some g → tv.ownBlock = some g ∨ wr.heap.size ≤ g) : Core R bb bv N w B X E w2 tv' n' M nv xs := by
  have tw : ∀ g, tv.ownBlock = some g → B ≤ g := fun g e => (h.T.lt g e).1
  have o1 := h.o1
  have o2 := h.o2
  have hkeep : ∀ j, B ≤ j → j < wr.heap.size → ¬ av nv (av tv X) j → w2.heap[j]? = wr.heap[j]? := fun j _ b c => hg.block j b (fun e => c (.inr (.inl e.symm)))
  have ha : ∀ g, av nv (av tv' X) g → av nv (av tv X) g ∨ wr.heap.size ≤ g := fun g q => by
    rcases q with q | q | q
    · exact .inl (.inl q)
    · rcases hf g q with q | q
      · exact .inl (.inr (.inl q))
      · exact .inr q
    · exact .inl (.inr (.inr q))
  obtain ⟨css, h3, h4, h5⟩ := h.K
  refine ⟨h.o1, h.o2, Nat.le_trans h.o3 hg.size, grown_own h.G hg (fun k hk => Nat.le_trans o2 (tw k hk)), h.b.old hg.size (fun j hj => hg.block j (by have := h.b.lt; omega) (fun e => by have := tw j e.symm; omega)), hT, ⟨css, h3.move (fun g e => hg.block g (h3.lt g e).2 (fun e2 => h.D g e e2.symm)) (Nat.le_refl _), h4.keep hg.size hkeep ha, h5⟩, fun g e1 e2 => ?_, fun g q => ?_, h.E1.keep hg.size hkeep ha⟩
  · rcases hf g e2 with q | q
    · exact h.D g e1 q
    · have := (h3.lt g e1).2; omega
  · obtain ⟨a, b, c, d⟩ := h.X1 g q
    refine ⟨Nat.lt_of_lt_of_le a hg.size, b, c, fun e => ?_⟩
    rcases hf g e with q | q
    · exact d q
    · omega
/-- The row of nodes is grown by one. -/
theorem Core.node (h : Core R bb bv N w B X E wr tv tn M nv xs) {w2 : World} {g cap n : Nat} {css : List (Array Value)} {c : Array Value} {x : ι} (h3 : OwnR wr B 27 10 nv css) (h4 : Ent R B (av nv (av tv X)) css xs wr) (hn : css.length = n) (hc : Side B (av nv (av tv X)) (fun w2 => R w2 c x) wr) (hs : c.size = 10) (h1 : c.all (·.oneCell') = true)
    (hown : w2.ownsRow B 27 10 (.slice (some ⟨g, 0, none⟩) (n + 1) cap) (n + 1) (flat css ++ c.toList)) (hg : wr.grownBy w2 nv.ownBlock) (hat : nv.ownBlock = some g ∨ wr.heap.size ≤ g) : Core R bb bv N w B X E w2 tv tn M (.slice (some ⟨g, 0, none⟩) (n + 1) cap) (xs ++ [x]) := by
  have tw : ∀ g, nv.ownBlock = some g → B ≤ g := fun g e => (h.own g e).1
  have o1 := h.o1
  have o2 := h.o2
  have hf : ∀ g', (Value.slice (some ⟨g, 0, none⟩) (n + 1) cap).ownBlock = some g' → nv.ownBlock = some g' ∨ wr.heap.size ≤ g' := fun g' e => by
    have e2 : g = g' := by simpa [Value.ownBlock] using e
    subst e2; exact hat
  have hkeep : ∀ j, B ≤ j → j < wr.heap.size → ¬ av nv (av tv X) j → w2.heap[j]? = wr.heap[j]? := fun j _ b c => hg.block j b (fun e => c (.inl e.symm))
  have ha := av_next (X := av tv X) hf
  have hO : OwnR w2 B 27 10 (.slice (some ⟨g, 0, none⟩) (n + 1) cap) (css ++ [c]) := OwnR.snoc hown (by omega) h3.2.1 h3.2.2 hs h1
  refine ⟨h.o1, h.o2, Nat.le_trans h.o3 hg.size, grown_own h.G hg (fun k hk => Nat.le_trans o2 (tw k hk)), h.b.old hg.size (fun j hj => hg.block j (by have := h.b.lt; omega) (fun e => by have := tw j e.symm; omega)), h.T.move (fun g e => hg.block g (h.T.lt g e).2 (fun e2 => h.D g e2.symm e)) (Nat.le_refl _), ⟨css ++ [c], hO, (h4.snoc hc).keep hg.size hkeep ha, fun e => by simp at e⟩, fun g' e1 e2 => ?_, fun g' q => ?_, h.E1.keep hg.size hkeep ha⟩
  · rcases hf g' e1 with q | q
    · exact h.D g' q e2
    · have := (h.T.lt g' e2).2; omega
  · obtain ⟨a, b, c, d⟩ := h.X1 g' q
    refine ⟨Nat.lt_of_lt_of_le a hg.size, b, fun e => ?_, d⟩
    rcases hf g' e with q | q
    · exact c q
    · omega
end
/-- Before anything is in the rows. -/
theorem Core.start {ι : Type} {R : World → Array Value → ι → Prop} {bb : Nat} {bv : Value} {N : Nat} {w w0 wr : World} {M : Nat} (hb : bb < w.heap.size) (h0 : w.grownBy w0 (some bb)) (hg : w0.grownBy wr (some bb)) (hB : BOk bb bv N wr) : Core R bb bv N w w0.heap.size (fun _ => False) (fun _ => True) wr (.slice none 0 0) 0 M (.slice none 0 0) [] :=
  ⟨hb, h0.size, hg.size, grown_trans h0 hg, hB, Strs.nil _ _ _, ⟨[], OwnR.nil _ _ _ _, Ent.nil, fun _ => rfl⟩, fun g e => by simp [Value.ownBlock] at e, fun g e => e.elim, Side.pure fun _ => trivial⟩
/-! What the parts of a document give. -/
def NL (d : Nat) : Nat := 10 * 9 ^ d
def LM (d : Nat) : Nat := 50 + 10 * d
theorem NL_succ (d : Nat) : NL (d + 1) = 9 * NL d := by unfold NL; rw [Nat.pow_succ]; omega
theorem NL_ge (d : Nat) : 10 ≤ NL d := by
  unfold NL
  have := Nat.one_le_pow d 9 (by omega)
  omega
/-- Lines and a node. -/
def NodeP {ι : Type} (R : World → Array Value → ι → Prop) (bb : Nat) (bv : Value) (N L M : Nat) (w : World) (e : Ending) (w' : World) : Prop := ∃ (g n cap : Nat) (cs : Array Value) (x : ι), e = .returned (.tuple #[.slice (some ⟨g, 0, none⟩) n cap, .agg cs]) ∧ 0 < n ∧ n ≤ L ∧ n ≤ cap ∧ cap ≤ 9223372036854775807 ∧ cs.size = 10 ∧ cs.all (·.oneCell') = true ∧
  Side w.heap.size (fun _ => False) (fun w2 => (StrsR w2 g 0 n M ∧ g < w2.heap.size) ∧ R w2 cs x) w' ∧ BOk bb bv N w' ∧ w.grownBy w' (some bb)
/-- A block of the depth. -/
def SBx (d : Nat) (w : World) (cs : Array Value) (x : Option ByteArray × ByteArray) : Prop := SB (d + 1) w cs x.1 x.2
/-- Lines and blocks. -/
def BlocksP (d m : Nat) (bb : Nat) (bv : Value) (N : Nat) (w : World) (e : Ending) (w' : World) : Prop := ∃ (g n cap g2 n2 cap2 : Nat) (ps : Nat → Option ByteArray) (ys : Nat → ByteArray), e = .returned (.tuple #[.slice (some ⟨g, 0, none⟩) n cap, .slice (some ⟨g2, 0, none⟩) n2 cap2]) ∧ 0 < n ∧ n ≤ m * (NL d + 1) ∧ n ≤ cap ∧ cap ≤ 9223372036854775807 ∧ n2 ≤ m ∧
  Side w.heap.size (fun _ => False) (fun w2 => (StrsR w2 g 0 n (LM d) ∧ g < w2.heap.size) ∧ Kids 10 (SB (d + 1) w2) w2 (.slice (some ⟨g2, 0, none⟩) n2 cap2) n2 ps ys) w' ∧ BOk bb bv N w' ∧ w.grownBy w' (some bb)
def BlockC (d : Nat) (bb : Nat) (bv : Value) (N : Nat) : Prop := ∀ (w : World) (odd : Bool), BOk bb bv N w → Calls Tryz.prog 15 #[.pointer (some ⟨bb, 0, none⟩), .int .i64 d, .bool odd] w (NodeP (SBx d) bb bv N (NL d) (LM d) w)
def BlocksC (d m : Nat) (bb : Nat) (bv : Value) (N : Nat) : Prop := ∀ w : World, BOk bb bv N w → Calls Tryz.prog 9 #[.pointer (some ⟨bb, 0, none⟩), .int .i64 d, .int .i64 m] w (BlocksP d m bb bv N w)
def ListC (d : Nat) (bb : Nat) (bv : Value) (N : Nat) : Prop := ∀ (w : World) (odd : Bool), BOk bb bv N w → Calls Tryz.prog 37 #[.pointer (some ⟨bb, 0, none⟩), .int .i64 d, .bool odd] w (NodeP (SBx (d + 1)) bb bv N (NL (d + 1)) (LM (d + 1)) w)
/-- The lines of a node may be written. -/
theorem SB.place {d : Nat} {w : World} {cs : Array Value} {p : Option ByteArray} {y : ByteArray} (h : SB d w cs p y) (a b : Int) : SB d w ((cs.setIfInBounds 8 (.int .i64 a)).setIfInBounds 9 (.int .i64 b)) p y := by
  cases d with
  | zero => exact h.elim
  | succ d =>
    refine ⟨h.1, ?_⟩
    rcases h.2 with ⟨ks, f, o, n, is, rfl, h2⟩ | ⟨ks, f, o, n, hh, is, rfl, h2⟩ | ⟨f, o, rfl, h2⟩ | ⟨t, x, f, o, rfl, h2⟩ | ⟨ks, f, o, n, ps, ys, rfl, h2⟩ | ⟨ks, f, o, num, c, l, n, zs, rfl, h2⟩
    · exact .inl ⟨ks, a, b, n, is, rfl, h2⟩
    · exact .inr (.inl ⟨ks, a, b, n, hh, is, rfl, h2⟩)
    · exact .inr (.inr (.inl ⟨a, b, rfl, h2⟩))
    · exact .inr (.inr (.inr (.inl ⟨t, x, a, b, rfl, h2⟩)))
    · exact .inr (.inr (.inr (.inr (.inl ⟨ks, a, b, n, ps, ys, rfl, h2⟩))))
    · exact .inr (.inr (.inr (.inr (.inr ⟨ks, a, b, num, c, l, n, zs, rfl, h2⟩))))
theorem place_size (cs : Array Value) (a b : Int) : ((cs.setIfInBounds 8 (.int .i64 a)).setIfInBounds 9 (.int .i64 b)).size = cs.size := by simp
theorem place_one {cs : Array Value} (h : cs.all (·.oneCell') = true) (a b : Int) : ((cs.setIfInBounds 8 (.int .i64 a)).setIfInBounds 9 (.int .i64 b)).all (·.oneCell') = true := by
  rw [Array.all_eq_true'] at h ⊢
  intro u hu
  rcases Array.mem_or_eq_of_mem_setIfInBounds hu with q | q
  · rcases Array.mem_or_eq_of_mem_setIfInBounds q with q | q
    · exact h u q
    · rw [q]; rfl
  · rw [q]; rfl
end Go.Proofs.YtipniinmajoolaaGreatDoor
