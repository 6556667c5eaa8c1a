/- A text cut into lines: impl.cut, a range over strings.Lines, whose function keeps the rest of the text in a box. Conditions: a text of at most 100 bytes that ends with a line feed. -/
import Derived.Test.YtipniinmajoolaaGreatDoorTr2
import Derived.RangeFuncNested
import Derived.RangeFuncBound
import Derived.RangeFuncCalls
import Derived.RangeFuncLeaves
import Derived.Shelf.Abstract
import Derived.Shelf.RegionOpen
import Derived.OwnWalkIn
import Derived.TacticsInMore
import Derived.LoopNIn
import Derived.LoopIn
import Derived.Maps.AppendAt
namespace Go.Proofs.YtipniinmajoolaaGreatDoor
open Go.RowKit Go.Shelf
section
variable {F : Fence} {n : Nat} {P : Program}
/-- An iterator that keeps its state in the box: what it asks of the rounds, and what it gives. -/
def BoxSeq {α : Type} (F : Fence) (n : Nat) (P : Program) (gf : Nat) (lb : Array Value) (encs : α → Array Value) (X : α → Prop) (Bs N : Nat) (S : List α → Prop) (w0 : World) : Prop :=
  ∀ (l : Nat) (J : List α → World → Prop) (W : World), Below w0.heap.size w0 W → (∀ s A B r, J s A → A.grownBy B r → (∀ k, r = some k → k = Bs) → J s B) →
    (∀ pre x W1, J pre W1 → pre.length < N → X x → YieldAt F (n - 1) P l (encs x) W1 fun e W' => e = .returned (.bool true) ∧ J (pre ++ [x]) W' ∧ W'.heap[Bs]? = W1.heap[Bs]?) →
    J [] W → CallsIn F n P gf (#[.func (.yield l) #[] #[]] ++ lb) W fun e W' => (∃ v, e = .returned v) ∧ ∃ xs, S xs ∧ J xs W'
/-- How a round is left: it goes on. -/
def boxPost {α : Type} (B Bs : Nat) (I : List α → World → Prop) (xs : List α) (W : World) : Exit → Act → World → Prop
  | .normal, _, W' => KeepsFrom B W W' ∧ W'.heap[Bs]? = W.heap[Bs]? ∧ I xs W'
  | _, _, _ => False
theorem rangeFunc_box {α : Type} {g : Operand} {ps : Array Tmp} {assign body : Code} {Q : Exit → Act → World → Prop} {a : Act} {w : World}
    (hro : F.round = none) (h1 : 1 ≤ n) {gf : Nat} {lb : Array Value} (hg : a.eval g = .func (.func gf) #[] lb) (hFg : F.fn gf) (eg : ∀ args w, (callFunc gf args).run P w = .ok (.enter gf args) w)
    {encs : α → Array Value} {X : α → Prop} {Bs N : Nat} {S : List α → Prop} (hBs : Bs < w.heap.size) (hseq : BoxSeq F (n - 1) P gf lb encs X Bs N S w) (hps : ∀ x, (encs x).size = ps.size)
    (I : List α → World → Prop) (hI : ∀ s A B r, I s A → A.grownBy B r → (∀ k, r = some k → k = Bs ∨ (w.heap.size ≤ k ∧ ∃ o : Obj, A.heap[k]? = some o ∧ o.isCells = false)) → I s B) (h0 : I [] w) (a₁ : α → Act)
    (hassign : ∀ (l : Nat) (x : α) (W : World) (K : Act → World → Prop), K (a₁ x) W →
      assign.wpIn (F.inRound l) (n - 1 - 1) P (Exit.then K (fun _ _ _ => False)) { tmps := (ps.zip (encs x)).foldl (fun t (p, v) => t.setIfInBounds p v) a.tmps, defers := [] } W)
    (hbody : ∀ (l : Nat) (pre : List α) (x : α) (W : World), I pre W → pre.length < N → X x → body.wpIn (F.inRound l) (n - 1 - 1) P (boxPost w.heap.size Bs I (pre ++ [x]) W) (a₁ x) W)
    (hdone : ∀ (D : Nat) (xs : List α) (W : World), w.heap.size ≤ D → S xs → I xs W → W.heap[D]? = some (.deferred (some [])) → Q .normal { a with defers := { target := .collected D, args := #[] } :: a.defers } W) :
    (Code.rangeFunc g ps assign body).wpIn F n P Q a w := by
  refine wpIn_rangeFunc fun fn hfn => ?_
  rw [hro]
  -- the record of the loop in its three states, and the world with it
  let R : LoopState → Option Code → Obj := fun st pe => .loop { state := st, pending := pe, fn, tmps := a.tmps, params := ps, assign, body, defers := w.heap.size }
  let W0 : World := w.alloc (.deferred (some []))
  let W1 : World := W0.alloc (R .ready none)
  have s0 : W0.heap.size = w.heap.size + 1 := World.size_alloc w _
  have e1 : W1.heap[w.heap.size + 1]? = some (R .ready none) := by have := World.alloc_heap_new W0 (R .ready none); rwa [s0] at this
  have e0 : W1.heap[w.heap.size]? = some (.deferred (some [])) := (Below.heap_alloc W0 _ _ (by show w.heap.size < W0.heap.size; omega)).trans (World.alloc_heap_new w _)
  have b1 : Below w.heap.size w W1 := ((Below.refl _ w).alloc (Nat.le_refl _) _).alloc (by show w.heap.size ≤ W0.heap.size; omega) _
  have i1 : I [] W1 := hI _ _ _ none (hI _ _ _ none h0 (World.grownBy_alloc w _ none) (fun k e => by cases e)) (World.grownBy_alloc W0 _ none) (fun k e => by cases e)
  refine ⟨w.heap.size + 1, [{ target := .collected w.heap.size, args := #[] }], W1, { target := .fn (.func gf) lb, args := #[.func (.yield (w.heap.size + 1)) #[] #[]] }, W1, gf,
    #[.func (.yield (w.heap.size + 1)) #[] #[]] ++ lb, W1, run_enterLoop_outer _ _ _ _ _, ?_, ?_, ?_, fun _ => h1, ?_⟩
  · simp only [resolve, hg]
    simp [go_sem]
  · intro f' hf'; simp [Target.leads] at hf'; subst hf'; exact hFg
  · simp [invoke, go_sem, eg]
  -- a block of the loop's own is turned
  have turn : ∀ {s : List α} {W : World} {l : Nat} {o : Obj} (o' : Obj), I s W → w.heap.size ≤ l → W.heap[l]? = some o → o.isCells = false → I s (W.putObj l o') := fun o' hi hl ho hc =>
    hI _ _ _ (some _) hi (grownBy_putObj' _ _ o') (fun k e => .inr (by cases e; exact ⟨hl, _, ho, hc⟩))
  refine (hseq (w.heap.size + 1) (fun pre W => I pre W ∧ W.heap[w.heap.size + 1]? = some (R .ready none) ∧ W.heap[w.heap.size]? = some (.deferred (some []))) W1 b1 ?_ ?_ ⟨i1, e1, e0⟩).mono ?_
  · rintro s A B r ⟨x1, x2, x3⟩ hgr hr
    refine ⟨hI _ _ _ r x1 hgr (fun k e => .inl (hr k e)), ?_, ?_⟩
    · exact (hgr.block _ (Array.getElem?_eq_some_iff.1 x2).1 (fun e => by have := hr _ e.symm; omega)).trans x2
    · exact (hgr.block _ (Array.getElem?_eq_some_iff.1 x3).1 (fun e => by have := hr _ e.symm; omega)).trans x3
  · rintro pre x W ⟨hi, hl, hk⟩ hlen hX
    have hlt : w.heap.size + 1 < W.heap.size := (Array.getElem?_eq_some_iff.1 hl).1
    refine ⟨fn, _, assign, body, run_yield (P := P) (args := encs x) hl (hps x), roundIn_of_wpIn hfn (hassign _ x W _ ⟨_, run_beginRound hl rfl, ?_⟩)⟩
    have hl2 : (W.putObj (w.heap.size + 1) (R .busy none)).heap[w.heap.size + 1]? = some (R .busy none) := World.putObj_heap_same hlt
    have hk2 : (W.putObj (w.heap.size + 1) (R .busy none)).heap[w.heap.size]? = some (.deferred (some [])) := (World.putObj_heap_other (by omega)).trans hk
    have hx2 : (W.putObj (w.heap.size + 1) (R .busy none)).heap[Bs]? = W.heap[Bs]? := World.putObj_heap_other (by omega)
    refine wpIn_mono (hbody _ pre x _ (turn _ hi (by omega) hl rfl) hlen hX) ?_
    rintro e a3 W3 hp
    cases e with
    | normal =>
      obtain ⟨hk3, hx3, hi3⟩ := hp
      have hl3 := hk3.same _ _ (by omega) hl2 rfl
      refine ⟨_, _, run_endRound (P := P) none hl3, rfl, ⟨turn _ hi3 (by omega) hl3 rfl, World.putObj_heap_same (Array.getElem?_eq_some_iff.1 hl3).1, (World.putObj_heap_other (by omega)).trans (hk3.same _ _ (Nat.le_refl _) hk2 rfl)⟩, ?_⟩
      exact (World.putObj_heap_other (by omega)).trans (hx3.trans hx2)
    | ret => exact hp.elim
    | exit id => exact hp.elim
    | goto t => exact hp.elim
    | panic ch => exact hp.elim
    | outgrown => exact hp.elim
  · rintro e W2 ⟨⟨v, rfl⟩, xs, hS, hi, hl, hk⟩
    exact ⟨none, _, run_endLoop (P := P) hl (by simp), hdone _ xs _ (Nat.le_refl _) hS (turn _ hi (by omega) hl rfl) ((World.putObj_heap_other (by omega)).trans hk)⟩
end
end Go.Proofs.YtipniinmajoolaaGreatDoor
