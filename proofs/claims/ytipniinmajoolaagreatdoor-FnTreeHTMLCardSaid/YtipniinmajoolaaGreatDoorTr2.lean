/- Rows of structs that a call fills one by one: who owns them, what each of them reads as, and that appending to the row leaves the others as they read. Plain laws over any program. Conditions: as each states them. -/
import Derived.Test.YtipniinmajoolaaGreatDoorTr1
namespace Go.Proofs.YtipniinmajoolaaGreatDoor
open Go.RowKit
/-- The cells of structs in a row. -/
def flat (css : List (Array Value)) : List Value := css.flatMap (·.toList)
theorem flat_snoc (css : List (Array Value)) (c : Array Value) : flat css ++ c.toList = flat (css ++ [c]) := by simp [flat]
theorem flat_len {sz : Nat} : ∀ {css : List (Array Value)}, (∀ c ∈ css, c.size = sz) → (flat css).length = css.length * sz
  | [], _ => by simp [flat]
  | c :: css, h => by
    have h1 := flat_len (sz := sz) (css := css) (fun d hd => h d (List.mem_cons_of_mem _ hd))
    have h2 := h c (List.mem_cons_self ..)
    unfold flat at h1 ⊢
    rw [List.flatMap_cons, List.length_append, h1, Array.length_toList, h2, List.length_cons, Nat.succ_mul]; omega
theorem flat_get {sz : Nat} : ∀ {css : List (Array Value)} {k j : Nat} {c : Array Value} {v : Value}, (∀ c ∈ css, c.size = sz) → css[k]? = some c → c.toList[j]? = some v → (flat css)[k * sz + j]? = some v
  | [], k, _, _, _, _, hk, _ => by simp at hk
  | a :: css, 0, j, c, v, h, hk, hj => by
    have ha : a = c := by simpa using hk
    subst ha
    have hl : j < a.toList.length := (List.getElem?_eq_some_iff.1 hj).1
    unfold flat
    rw [List.flatMap_cons, Nat.zero_mul, Nat.zero_add, List.getElem?_append_left hl]; exact hj
  | a :: css, k + 1, j, c, v, h, hk, hj => by
    have h1 := flat_get (sz := sz) (css := css) (k := k) (j := j) (c := c) (v := v) (fun d hd => h d (List.mem_cons_of_mem _ hd)) (by simpa using hk) hj
    have h2 : a.toList.length = sz := by rw [Array.length_toList]; exact h a (List.mem_cons_self ..)
    unfold flat at h1 ⊢
    rw [List.flatMap_cons, List.getElem?_append_right (by rw [h2, Nat.succ_mul]; omega), h2, Nat.succ_mul]
    rw [show k * sz + sz + j - sz = k * sz + j by omega]; exact h1
/-- A row of the call's own, from block B on. -/
def OwnR (w : World) (B : Nat) (T : TypeId) (sz : Nat) (v : Value) (css : List (Array Value)) : Prop := w.ownsRow B T sz v css.length (flat css) ∧ (∀ c ∈ css, c.size = sz) ∧ (∀ c ∈ css, c.all (·.oneCell') = true)
/-- The row's own block, and what else is to be kept away from. -/
def av (v : Value) (X : Nat → Prop) (g : Nat) : Prop := v.ownBlock = some g ∨ X g
/-- What holds, and of which blocks of the call's own it speaks: from B on, away from A. -/
def Side (B : Nat) (A : Nat → Prop) (K : World → Prop) (w : World) : Prop := ∃ F : Nat → Prop, (∀ w2 : World, (∀ j, F j → w2.heap[j]? = w.heap[j]?) → K w2) ∧ ∀ j, F j → B ≤ j ∧ j < w.heap.size ∧ ¬ A j
theorem Side.pure {B : Nat} {A : Nat → Prop} {K : World → Prop} {w : World} (h : ∀ w2, K w2) : Side B A K w := ⟨fun _ => False, fun w2 _ => h w2, fun _ hj => hj.elim⟩
theorem Side.keep {B : Nat} {A A' : Nat → Prop} {K : World → Prop} {w w' : World} (h : Side B A K w) (hs : w.heap.size ≤ w'.heap.size) (hk : ∀ j, B ≤ j → j < w.heap.size → ¬ A j → w'.heap[j]? = w.heap[j]?) (ho : ∀ g, A' g → A g ∨ w.heap.size ≤ g) : Side B A' K w' := by
  obtain ⟨F, h1, h2⟩ := h
  refine ⟨F, fun w2 hw => h1 w2 fun j hj => ?_, fun j hj => ?_⟩
  · obtain ⟨a, b, c⟩ := h2 j hj
    exact (hw j hj).trans (hk j a b c)
  · obtain ⟨a, b, c⟩ := h2 j hj
    refine ⟨a, Nat.lt_of_lt_of_le b hs, fun q => ?_⟩
    rcases ho j q with q | q
    · exact c q
    · omega
theorem Side.mono {B : Nat} {A : Nat → Prop} {K K' : World → Prop} {w : World} (h : Side B A K w) (hk : ∀ w2, K w2 → K' w2) : Side B A K' w := by
  obtain ⟨F, h1, h2⟩ := h
  exact ⟨F, fun w2 hw => hk _ (h1 w2 hw), h2⟩
theorem Side.now {B : Nat} {A : Nat → Prop} {K : World → Prop} {w : World} (h : Side B A K w) : K w := by
  obtain ⟨F, h1, _⟩ := h; exact h1 w fun _ _ => rfl
theorem Side.base {B B' : Nat} {A : Nat → Prop} {K : World → Prop} {w : World} (h : Side B A K w) (hB : B' ≤ B) : Side B' A K w := by
  obtain ⟨F, h1, h2⟩ := h
  exact ⟨F, h1, fun j hj => ⟨Nat.le_trans hB (h2 j hj).1, (h2 j hj).2⟩⟩
/-- A block from B on, of which it speaks alone. -/
theorem Side.block {B b : Nat} {A : Nat → Prop} {K : World → Prop} {w : World} (h : ∀ w2 : World, w2.heap[b]? = w.heap[b]? → K w2) (h1 : B ≤ b) (h2 : b < w.heap.size) (h3 : ¬ A b) : Side B A K w :=
  ⟨fun j => j = b, fun w2 hw => h w2 (hw b rfl), fun j hj => by subst hj; exact ⟨h1, h2, h3⟩⟩
theorem Side.and {B : Nat} {A : Nat → Prop} {K K' : World → Prop} {w : World} (h : Side B A K w) (h' : Side B A K' w) : Side B A (fun w2 => K w2 ∧ K' w2) w := by
  obtain ⟨F, h1, h2⟩ := h
  obtain ⟨F', h3, h4⟩ := h'
  exact ⟨fun j => F j ∨ F' j, fun w2 hw => ⟨h1 w2 fun j hj => hw j (.inl hj), h3 w2 fun j hj => hw j (.inr hj)⟩, fun j hj => hj.elim (h2 j) (h4 j)⟩
/-- What holds of all blocks from B on. -/
theorem Side.all {B : Nat} {A : Nat → Prop} {K : World → Prop} {w : World} (h : Side B A K w) : Held K w B w.heap.size := by
  obtain ⟨F, h1, h2⟩ := h
  exact fun w2 hw => h1 w2 fun j hj => hw j (h2 j hj).1 (h2 j hj).2.1
theorem Held.side {B : Nat} {A : Nat → Prop} {K : World → Prop} {w : World} (h : Held K w B w.heap.size) (hA : ∀ g, A g → g < B ∨ w.heap.size ≤ g) : Side B A K w :=
  ⟨fun j => B ≤ j ∧ j < w.heap.size, fun w2 hw => h w2 fun j a b => hw j ⟨a, b⟩, fun j hj => ⟨hj.1, hj.2, fun q => by rcases hA j q with h | h <;> omega⟩⟩
/-- What each reads as, and where: away from the blocks that may be written. -/
def Ent {ι : Type} (R : World → Array Value → ι → Prop) (B : Nat) (A : Nat → Prop) (css : List (Array Value)) (xs : List ι) (w : World) : Prop :=
  css.length = xs.length ∧ ∀ (k : Nat) (c : Array Value) (x : ι), css[k]? = some c → xs[k]? = some x → Side B A (fun w2 => R w2 c x) w
theorem Ent.nil {ι : Type} {R : World → Array Value → ι → Prop} {B : Nat} {A : Nat → Prop} {w : World} : Ent R B A [] [] w := ⟨rfl, fun k c x h => by simp at h⟩
theorem Ent.keep {ι : Type} {R : World → Array Value → ι → Prop} {B : Nat} {A A' : Nat → Prop} {css : List (Array Value)} {xs : List ι} {w w' : World} (h : Ent R B A css xs w) (hs : w.heap.size ≤ w'.heap.size)
    (hk : ∀ j, B ≤ j → j < w.heap.size → ¬ A j → w'.heap[j]? = w.heap[j]?) (ho : ∀ g, A' g → A g ∨ w.heap.size ≤ g) : Ent R B A' css xs w' :=
  ⟨h.1, fun k c x hc hx => (h.2 k c x hc hx).keep hs hk ho⟩
theorem Ent.snoc {ι : Type} {R : World → Array Value → ι → Prop} {B : Nat} {A : Nat → Prop} {css : List (Array Value)} {xs : List ι} {w : World} {c : Array Value} {x : ι} (h : Ent R B A css xs w)
    (hc : Side B A (fun w2 => R w2 c x) w) : Ent R B A (css ++ [c]) (xs ++ [x]) w := by
  refine ⟨by simp [h.1], fun k c' x' hk hx => ?_⟩
  by_cases hl : k < css.length
  · rw [List.getElem?_append_left hl] at hk
    rw [List.getElem?_append_left (by rw [← h.1]; exact hl)] at hx
    exact h.2 k c' x' hk hx
  · have hk' : k = css.length := by
      have := (List.getElem?_eq_some_iff.1 hk).1
      simp at this; omega
    subst hk'
    rw [h.1] at hx
    have e1 : c' = c := by simpa using hk.symm
    have e2 : x' = x := by simpa using hx.symm
    subst e1 e2
    exact hc
theorem OwnR.lt {w : World} {B : Nat} {T : TypeId} {sz : Nat} {v : Value} {css : List (Array Value)} (h : OwnR w B T sz v css) : ∀ g, v.ownBlock = some g → B ≤ g ∧ g < w.heap.size := h.1.lt
theorem OwnR.nil (w : World) (B : Nat) (T : TypeId) (sz : Nat) : OwnR w B T sz (.slice none 0 0) [] := ⟨World.ownsRow_nil _ _ _ _, fun c h => by simp at h, fun c h => by simp at h⟩
theorem own_move {w w' : World} {B B' : Nat} {e : TypeId} {size n : Nat} {v : Value} {xs : List Value} (h : w.ownsRow B e size v n xs) (hb : ∀ g, v.ownBlock = some g → w'.heap[g]? = w.heap[g]?) (hB : B' ≤ B) : w'.ownsRow B' e size v n xs := by
  obtain ⟨h1, h2⟩ := h
  refine ⟨h1, ?_⟩
  rcases h2 with h2 | ⟨g, cap, cur, hv, hg, hh, r⟩
  · exact .inl h2
  · exact .inr ⟨g, cap, cur, hv, by omega, by rw [hb g (by rw [hv]; rfl)]; exact hh, r⟩
theorem OwnR.move {w w' : World} {B B' : Nat} {T : TypeId} {sz : Nat} {v : Value} {css : List (Array Value)} (h : OwnR w B T sz v css) (hb : ∀ g, v.ownBlock = some g → w'.heap[g]? = w.heap[g]?) (hB : B' ≤ B) : OwnR w' B' T sz v css :=
  ⟨own_move h.1 hb hB, h.2⟩
/-- The row as a row that is read. -/
theorem OwnR.row {w w2 : World} {B : Nat} {T : TypeId} {sz : Nat} {v : Value} {css : List (Array Value)} (h : OwnR w B T sz v css) (h0 : 0 < css.length) (hw : ∀ g, v.ownBlock = some g → w2.heap[g]? = w.heap[g]?) : RowN sz w2 v css.length (fun k => css.getD k #[]) := by
  rcases h.1.2 with ⟨_, h1⟩ | ⟨g, cap, cur, rfl, hbg, hg, hnc, hcm, hcs, ht⟩
  · omega
  · have hg2 : w2.heap[g]? = some (.cells cur T (0, 0)) := (hw g rfl).trans hg
    refine .inr ⟨g, cap, rfl, h0, hnc, by unfold maxLen at hcm; omega, (Array.getElem?_eq_some_iff.1 hg2).1, fun k hk j v hj => ?_⟩
    have hk1 : css[k]? = some (css.getD k #[]) := by rw [List.getD_eq_getElem?_getD, List.getElem?_eq_getElem hk, Option.getD_some]
    have h1 := flat_get h.2.1 hk1 hj
    have hlt := (List.getElem?_eq_some_iff.1 h1).1
    rw [flat_len h.2.1] at hlt
    have h2 : cur.toList[k * sz + j]? = some v := by
      rw [← h1, ← ht, List.getElem?_take_of_lt hlt]
    simp only [World.cell?, hg2]
    simpa using h2
/-- What is read of a row of the call's own, once it is filled. -/
theorem row_done {ι : Type} {R : World → Array Value → ι → Prop} {w : World} {B : Nat} {T : TypeId} {sz : Nat} {v : Value} {X : Nat → Prop} {css : List (Array Value)} {xs : List ι} (h : OwnR w B T sz v css) (hE : Ent R B (av v X) css xs w) (h0 : 0 < css.length)
    (hd : ∀ g, v.ownBlock = some g → ¬ X g) : Side B X (fun w2 => RowN sz w2 v css.length (fun k => css.getD k #[]) ∧ ∀ k, k < css.length → ∃ x, xs[k]? = some x ∧ R w2 (css.getD k #[]) x) w := by
  refine ⟨fun j => B ≤ j ∧ j < w.heap.size ∧ ¬ X j, fun w2 hw => ⟨h.row h0 fun g hg => hw g ⟨(h.lt g hg).1, (h.lt g hg).2, hd g hg⟩, fun k hk => ?_⟩, fun j hj => hj⟩
  have hk1 : css[k]? = some (css.getD k #[]) := by rw [List.getD_eq_getElem?_getD, List.getElem?_eq_getElem hk, Option.getD_some]
  have hk2 : xs[k]? = some (xs[k]'(by have := hE.1; omega)) := List.getElem?_eq_getElem _
  obtain ⟨F, q1, q2⟩ := hE.2 k _ _ hk1 hk2
  exact ⟨_, hk2, q1 w2 fun j hj => hw j ⟨(q2 j hj).1, (q2 j hj).2.1, fun q => (q2 j hj).2.2 (.inr q)⟩⟩
/-- Behind an append of one struct. -/
theorem OwnR.snoc {w : World} {B : Nat} {T : TypeId} {sz n : Nat} {v : Value} {css : List (Array Value)} {c : Array Value} (h : w.ownsRow B T sz v n (flat css ++ c.toList)) (hn : css.length + 1 = n) (h1 : ∀ d ∈ css, d.size = sz) (h2 : ∀ d ∈ css, d.all (·.oneCell') = true) (h3 : c.size = sz) (h4 : c.all (·.oneCell') = true) : OwnR w B T sz v (css ++ [c]) := by
  subst hn
  refine ⟨?_, fun d hd => ?_, fun d hd => ?_⟩
  · rw [← flat_snoc, List.length_append]; exact h
  · rcases List.mem_append.1 hd with q | q
    · exact h1 d q
    · have : d = c := by simpa using q
      subst this; exact h3
  · rcases List.mem_append.1 hd with q | q
    · exact h2 d q
    · have : d = c := by simpa using q
      subst this; exact h4
theorem one_mem {c : Array Value} (h : c.all (·.oneCell') = true) : ∀ u ∈ c.toList, u.oneCell' = true := by
  intro u hu
  rw [Array.all_eq_true'] at h
  exact h u (by simpa using hu)
/-- A fresh row of one struct. -/
theorem OwnR.one (w : World) (T : TypeId) (sz : Nat) (c : Array Value) (h3 : c.size = sz) (h4 : c.all (·.oneCell') = true) : OwnR (w.alloc (.cells c T)) w.heap.size T sz (.slice (some ⟨w.heap.size, 0, none⟩) 1 1) [c] := by
  have hall : ∀ d ∈ [c], d.size = sz := fun d hd => by
    have : d = c := by simpa using hd
    subst this; exact h3
  refine ⟨⟨by rw [flat_len (sz := sz) hall], .inr ⟨w.heap.size, 1, c, rfl, Nat.le_refl _, heap_alloc_new w _, Nat.le_refl _, by unfold maxLen; omega, by omega, ?_⟩⟩, hall, fun d hd => ?_⟩
  · show c.toList.take (1 * sz) = flat [c]
    rw [Nat.one_mul, ← h3, ← Array.length_toList, List.take_length]; simp [flat]
  · have : d = c := by simpa using hd
    subst this; exact h4
/-- The world behind an append to a row of the call's own. -/
theorem grown_below {w w' : World} {B : Nat} {r : Option Nat} (h : w.grownBy w' r) (hr : ∀ k, r = some k → B ≤ k) (hB : B ≤ w.heap.size) : Below B w w' := (Below.refl B w).grown h hB hr
theorem cell_old {w : World} {a : Addr} {v : Value} (h : w.cell? a = some v) (o : Obj) : (w.alloc o).cell? a = some v := (World.grownBy_alloc w o none).cell h (by simp)
theorem free_old {w : World} {a : Addr} {v : Value} (h : w.cell? a = some v) (hf : w.frozen? a = false) (o : Obj) : (w.alloc o).frozen? a = false := by
  rw [(World.grownBy_alloc w o none).frozen_far a (World.block_lt_of_cell? w a h) (by simp)]; exact hf
theorem newB1 (w : World) (A : Obj) : (w.alloc A).heap[w.heap.size]? = some A := heap_alloc_new w A
theorem newB2 (w : World) (A B : Obj) : ((w.alloc A).alloc B).heap[w.heap.size + 1]? = some B := by
  have h := heap_alloc_new (w.alloc A) B
  rw [World.size_alloc'] at h
  exact h
theorem newB3 (w : World) (A B C : Obj) : (((w.alloc A).alloc B).alloc C).heap[w.heap.size + 1 + 1]? = some C := by
  have h := newB2 (w.alloc A) B C
  rw [World.size_alloc'] at h
  exact h
end Go.Proofs.YtipniinmajoolaaGreatDoor
