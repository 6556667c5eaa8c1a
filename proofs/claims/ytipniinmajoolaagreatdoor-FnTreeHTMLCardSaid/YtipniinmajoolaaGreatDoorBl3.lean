/- A line of words and its inlines: builder.line. Conditions: the builder's block holds at most 300 readable bytes. -/
import Derived.Test.YtipniinmajoolaaGreatDoorBl2
namespace Go.Proofs.YtipniinmajoolaaGreatDoor
open Go.RowKit
theorem Side.step {B bb : Nat} {A : Nat → Prop} {K : World → Prop} {w w' : World} (h : Side B A K w) (hg : w.grownBy w' (some bb)) (hb : bb < B) : Side B A K w' :=
  h.keep hg.size (fun j a b _ => hg.block j b (fun e => by have := Option.some.inj e; omega)) (fun _ h => .inl h)
theorem Side.alloc {B : Nat} {A : Nat → Prop} {K : World → Prop} {w : World} (h : Side B A K w) (o : Obj) : Side B A K (w.alloc o) :=
  h.keep (by rw [World.size_alloc']; omega) (fun j _ b _ => Below.heap_alloc _ _ _ b) (fun _ h => .inl h)
/-- Behind what may have written the row's own block alone. -/
theorem Side.grow {B : Nat} {X : Nat → Prop} {lv v' : Value} {K : World → Prop} {w w' : World} (h : Side B (av lv X) K w) (hg : w.grownBy w' lv.ownBlock) (hf : ∀ g, v'.ownBlock = some g → lv.ownBlock = some g ∨ w.heap.size ≤ g) : Side B (av v' X) K w' :=
  h.keep hg.size (fun j _ b hA => hg.block j b (fun e => hA (.inl e.symm))) (av_next hf)
/-- The builder's call under way: its own row of nodes, what these are, the builder. -/
def LSt (bb : Nat) (bv : Value) (N : Nat) (B : Nat) (X : Nat → Prop) (w : World) (lv : Value) (is : List Inl) : Prop :=
  (∃ css, OwnR w B 27 10 lv css ∧ Ent SInl B (av lv X) css is w ∧ (css = [] → lv = .slice none 0 0)) ∧ BOk bb bv N w ∧ bb < B ∧ B ≤ w.heap.size
theorem LSt.step {bb : Nat} {bv : Value} {N : Nat} {B : Nat} {X : Nat → Prop} {w w' : World} {lv : Value} {is : List Inl} (h : LSt bb bv N B X w lv is) (hB : BOk bb bv N w') (hg : w.grownBy w' (some bb)) : LSt bb bv N B X w' lv is := by
  obtain ⟨⟨css, h1, h2, h3⟩, _, h5, h6⟩ := h
  refine ⟨⟨css, h1.move (fun g e => hg.block g (h1.lt g e).2 (fun e2 => ?_)) (Nat.le_refl _), h2.keep hg.size (fun j a b _ => hg.block j b (fun e2 => ?_)) (fun g e => .inl e), h3⟩, hB, h5, Nat.le_trans h6 hg.size⟩
  · have := Option.some.inj e2
    have := (h1.lt g e).1
    omega
  · have := Option.some.inj e2; omega
theorem BOk.alloc {bb : Nat} {bv : Value} {N : Nat} {w : World} (h : BOk bb bv N w) (o : Obj) : BOk bb bv N (w.alloc o) := by
  obtain ⟨a, sz, dp, h1, h2, h3⟩ := h
  exact ⟨a, sz, dp, h1, (Below.heap_alloc _ _ _ h3.2.1).trans h2, h3.grown (World.grownBy_alloc _ _ _)⟩
theorem BOk.lt {bb : Nat} {bv : Value} {N : Nat} {w : World} (h : BOk bb bv N w) : bb < w.heap.size := by
  obtain ⟨a, sz, dp, h1, h2, h3⟩ := h; exact h3.2.1
theorem LSt.alloc {bb : Nat} {bv : Value} {N : Nat} {B : Nat} {X : Nat → Prop} {w : World} {lv : Value} {is : List Inl} (h : LSt bb bv N B X w lv is) (o : Obj) : LSt bb bv N B X (w.alloc o) lv is :=
  h.step (h.2.1.alloc o) (World.grownBy_alloc _ _ _)
/-- What leaves the builder's block and the older ones as they are. -/
theorem BOk.old {bb : Nat} {bv : Value} {N : Nat} {w w' : World} (h : BOk bb bv N w) (hs : w.heap.size ≤ w'.heap.size) (hg : ∀ j, j ≤ bb → w'.heap[j]? = w.heap[j]?) : BOk bb bv N w' := by
  obtain ⟨a, sz, dp, h1, h2, h3, h4, ao, cap, rfl, h5⟩ := h
  refine ⟨a, sz, dp, h1, (hg bb (Nat.le_refl _)).trans h2, h3, Nat.lt_of_lt_of_le h4 hs, ao, cap, rfl, fun k hk => ?_⟩
  obtain ⟨g, o, z, q1, q2, q4, q5, q6⟩ := h5 k hk
  exact ⟨g, o, z, q1, q2, q4, q5, (World.cell?_of_block (hg g (by omega))).trans q6⟩
/-- What a row's own block is to the builder. -/
theorem grown_own {w0 w w' : World} {bb : Nat} {r : Option Nat} (h : w0.grownBy w (some bb)) (hg : w.grownBy w' r) (hr : ∀ k, r = some k → w0.heap.size ≤ k) : w0.grownBy w' (some bb) :=
  ⟨hg.os.trans h.os, hg.tape.trans h.tape, hg.output.trans h.output, Nat.le_trans h.size hg.size, fun i hi hne => (hg.block i (Nat.lt_of_lt_of_le hi h.size) (fun e => by have := hr i e.symm; omega)).trans (h.block i hi hne)⟩
/-- put under way. -/
theorem put_state {bb : Nat} {bv : Value} {N : Nat} {B : Nat} {X : Nat → Prop} {w : World} {lv : Value} {is : List Inl} {c : Array Value} {i : Inl} (S : LSt bb bv N B X w lv is) (hc : Side B (av lv X) (fun w2 => SInl w2 c i) w) (hn : is.length ≤ 200) (hx : ∀ j ∈ is, j.t.size ≤ 1000) (hy : i.t.size ≤ 1000) :
    Calls Tryz.prog 48 #[lv, .agg c] w fun e w' => ∃ v', e = .returned v' ∧ LSt bb bv N B X w' v' (putI is i) ∧ w.grownBy w' lv.ownBlock ∧ (∀ g, v'.ownBlock = some g → lv.ownBlock = some g ∨ w.heap.size ≤ g) := by
  obtain ⟨⟨css, h1, h2, h3⟩, h4, h5, h6⟩ := S
  refine (put_any B X lv css is c i w (by rw [h2.1]; exact hn) h1 h2 h3 hc h6 hx hy).mono ?_
  rintro e w' ⟨v', css', rfl, p1, p2, p3, p4⟩
  refine ⟨v', rfl, ⟨⟨css', p1, p2, fun h => ?_⟩, h4.old p3.size (fun j hj => p3.block j (by have := h4.lt; omega) (fun e => ?_)), h5, Nat.le_trans h6 p3.size⟩, p3, p4⟩
  · have hl := p2.1
    rw [h] at hl
    have : (putI is i).length ≠ 0 := by
      unfold putI; split <;> simp
    exact absurd hl.symm this
  · have h7 := (h1.lt j e.symm).1
    omega
/-- The sizes of inlines. -/
def IOk (T : Nat) (is : List Inl) : Prop := (is.map (·.t.size)).sum ≤ T ∧ ∀ i ∈ is, i.k = 20 ∨ (i.x.size ≤ 100 ∧ (i.n = 0 ∨ Url i.t))
theorem IOk.one {i : Inl} (h : i.k = 20 ∨ (i.x.size ≤ 100 ∧ (i.n = 0 ∨ Url i.t))) : IOk i.t.size [i] := ⟨by simp, fun j hj => by
  have : j = i := by simpa using hj
  rw [this]; exact h⟩
theorem putI_len (is : List Inl) (i : Inl) : (putI is i).length ≤ is.length + 1 := by
  unfold putI
  split
  · rw [List.length_append, List.length_dropLast]; simp
  · simp
theorem IOk.put {T : Nat} {is : List Inl} {i : Inl} (h : IOk T is) (hi : i.k = 20 ∨ (i.x.size ≤ 100 ∧ (i.n = 0 ∨ Url i.t))) : IOk (T + i.t.size) (putI is i) := by
  obtain ⟨h1, h2⟩ := h
  unfold putI
  split
  · rename_i x y hl
    obtain ⟨is0, rfl⟩ : ∃ is0, is = is0 ++ [.plain x] := by
      rcases List.eq_nil_or_concat is with rfl | ⟨is0, i0, rfl⟩
      · simp at hl
      · rw [List.concat_eq_append] at hl ⊢
        rw [List.getLast?_append] at hl
        simp at hl
        exact ⟨is0, by rw [hl]⟩
    refine ⟨?_, fun j hj => ?_⟩
    · simp [Inl.t, ByteArray.size_append] at h1 ⊢; omega
    · simp at hj
      rcases hj with hj | hj
      · exact h2 j (by simp [hj])
      · left; rw [hj]; rfl
  · refine ⟨?_, fun j hj => ?_⟩
    · simp at h1 ⊢; omega
    · rcases List.mem_append.1 hj with q | q
      · exact h2 j q
      · have e : j = _ := List.mem_singleton.1 q
        rw [e]; exact hi
theorem sum_mem : ∀ {l : List Nat} {a : Nat}, a ∈ l → a ≤ l.sum
  | [], _, h => by simp at h
  | b :: l, a, h => by
    rcases List.mem_cons.1 h with rfl | h
    · simp
    · have := sum_mem h
      simp; omega
theorem IOk.size {T : Nat} {is : List Inl} (h : IOk T is) : ∀ i ∈ is, i.t.size ≤ T := by
  obtain ⟨h1, _⟩ := h
  intro i hi
  have : i.t.size ∈ is.map (·.t.size) := List.mem_map.2 ⟨i, hi, rfl⟩
  have := sum_mem this
  omega
theorem IOk.ok {T : Nat} {is : List Inl} (h : IOk T is) (hT : T ≤ 100) : ∀ i ∈ is, i.ok := by
  intro i hi
  have h1 := h.size i hi
  rcases h.2 i hi with q | ⟨q1, q2⟩
  · cases i <;> simp [Inl.k] at q
    exact ⟨by omega, by simp only [Inl.x, Inl.t] at *; omega, .inl rfl⟩
  · exact ⟨by omega, q1, q2⟩
end Go.Proofs.YtipniinmajoolaaGreatDoor
