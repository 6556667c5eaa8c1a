/- A list: builder.list, given what builder.blocks does. Its state. Conditions: the builder's block holds at most 300 readable bytes. -/
import Derived.Test.YtipniinmajoolaaGreatDoorBl10
import Derived.Deep.RegionLaw
namespace Go.Proofs.YtipniinmajoolaaGreatDoor
open Go.RowKit
/-- An item's blocks. -/
abbrev ItemD : Type := Nat × (Nat → Option ByteArray) × (Nat → ByteArray)
/-- An item, whatever its list is. -/
def RI (d : Nat) (w : World) (cs : Array Value) (x : ItemD) : Prop := ∃ (ks : Value) (f o : Int), cs = sN 4 ⟨#[]⟩ ⟨#[]⟩ 0 ⟨#[]⟩ false ks f o ∧ x.1 ≤ 2 ∧ Kids 10 (SB (d + 1) w) w ks x.1 x.2.1 x.2.2
abbrev listN (num : Int) (c : ByteArray) (l : Bool) (ks : Value) : Array Value := sN 3 ⟨#[]⟩ ⟨#[]⟩ num c l ks 0 0
abbrev zeroN : Array Value := sN 0 ⟨#[]⟩ ⟨#[]⟩ 0 ⟨#[]⟩ false (.slice none 0 0) 0 0
abbrev itemN (ks : Value) (f o : Int) : Array Value := sN 4 ⟨#[]⟩ ⟨#[]⟩ 0 ⟨#[]⟩ false ks f o
/-- Ahead of the items. -/
structure PreL (bb : Nat) (bv : Value) (N : Nat) (w : World) (num : Int) (c : ByteArray) (wr : World) : Prop where
  o1 : bb < w.heap.size
  o3 : w.heap.size + 2 ≤ wr.heap.size
  G : w.grownBy wr (some bb)
  b : BOk bb bv N wr
  hn : ObjIs wr (w.heap.size + 1) (listN num c false (.slice none 0 0)) 27
  hr : ObjIs wr w.heap.size zeroN 27
section
variable {bb : Nat} {bv : Value} {N : Nat} {w : World} {num : Int} {c : ByteArray} {wr : World}
theorem PreL.step (h : PreL bb bv N w num c wr) {w' : World} (hB : BOk bb bv N w') (hg : wr.grownBy w' (some bb)) : PreL bb bv N w num c w' := by
  have o1 := h.o1
  exact ⟨h.o1, Nat.le_trans h.o3 hg.size, grown_trans h.G hg, hB, h.hn.keep hg (fun e => by have := Option.some.inj e; omega), h.hr.keep hg (fun e => by have := Option.some.inj e; omega)⟩
/-- The list's node is written. -/
theorem PreL.set (h : PreL bb bv N w num c wr) (j : Nat) (v : Value) (num' : Int) (c' : ByteArray) (e : (listN num c false (.slice none 0 0)).setIfInBounds j v = listN num' c' false (.slice none 0 0)) : PreL bb bv N w num' c' (wr.setCell ⟨w.heap.size + 1, j, none⟩ v) := by
  have hg := grown_setCell wr (w.heap.size + 1) j v
  have o1 := h.o1
  refine ⟨h.o1, Nat.le_trans h.o3 hg.size, grown_own h.G hg (fun k hk => by have := Option.some.inj hk; omega), h.b.old hg.size (fun i hi => hg.block i (by have := h.b.lt; omega) (fun e => by have := Option.some.inj e; omega)), ?_, h.hr.keep hg (fun e => by have := Option.some.inj e; omega)⟩
  have := heap_setCell_same wr (w.heap.size + 1) j _ _ v h.hn
  rw [e] at this
  exact this
theorem PreL.cells (h : PreL bb bv N w num c wr) : wr.cell? ⟨w.heap.size + 1, 3, none⟩ = some (.int .i64 num) ∧ wr.cell? ⟨w.heap.size + 1, 4, none⟩ = some (.string c) ∧ wr.frozen? ⟨w.heap.size + 1, 3, none⟩ = false ∧ wr.frozen? ⟨w.heap.size + 1, 4, none⟩ = false :=
  ⟨heap_cell h.hn 3, heap_cell h.hn 4, heap_free h.hn 3, heap_free h.hn 4⟩
end
/-- The builder's flag. -/
theorem BOk.flat {bb : Nat} {bv : Value} {N : Nat} {w : World} (h : BOk bb bv N w) : w.cell? ⟨bb, 3, none⟩ = some (.bool false) := by
  obtain ⟨a, sz, dp, h1, h2, _⟩ := h
  exact (heap_cell h2 3).trans rfl
/-- A list under way, an item's lines and blocks read. -/
structure LiS (d : Nat) (bb : Nat) (bv : Value) (N : Nat) (w : World) (num : Int) (c : ByteArray) (ib : Nat) (E : World → Prop) (wr : World) (tv : Value) (n : Nat) (nv : Value) (xs : List ItemD) (lf : Bool) (ks : Value) (f o : Int) : Prop where
  C : Core (RI d) bb bv N w (w.heap.size + 2) (fun g => False ∨ g = ib) E wr tv n (LM (d + 1)) nv xs
  hn : ObjIs wr (w.heap.size + 1) (listN num c lf nv) 27
  hr : ObjIs wr w.heap.size zeroN 27
  hi : ObjIs wr ib (itemN ks f o) 27
section
variable {d : Nat} {bb : Nat} {bv : Value} {N : Nat} {w : World} {num : Int} {c : ByteArray} {ib : Nat} {E : World → Prop} {wr : World} {tv : Value} {n : Nat} {nv : Value} {xs : List ItemD} {lf : Bool} {ks : Value} {f o : Int}
theorem LiS.lt (h : LiS d bb bv N w num c ib E wr tv n nv xs lf ks f o) : bb < w.heap.size ∧ w.heap.size ≤ ib ∧ ib < wr.heap.size :=
  ⟨h.C.o1, (h.C.X1 ib (.inr rfl)).2.1, (h.C.X1 ib (.inr rfl)).1⟩
/-- Blocks that none of these is are written. -/
theorem LiS.core {E' : World → Prop} {w' : World} {tv' : Value} {n' : Nat} (h : LiS d bb bv N w num c ib E wr tv n nv xs lf ks f o) (hC : Core (RI d) bb bv N w (w.heap.size + 2) (fun g => False ∨ g = ib) E' w' tv' n' (LM (d + 1)) nv xs) {r : Option Nat} (hg : wr.grownBy w' r)
    (hr : ∀ g, r = some g → g = bb ∨ (w.heap.size + 2 ≤ g ∧ g ≠ ib)) : LiS d bb bv N w num c ib E' w' tv' n' nv xs lf ks f o := by
  obtain ⟨l1, l2, l3⟩ := h.lt
  refine ⟨hC, h.hn.keep hg (fun e => ?_), h.hr.keep hg (fun e => ?_), h.hi.keep hg (fun e => ?_)⟩
  · rcases hr _ e with q | ⟨q, _⟩ <;> omega
  · rcases hr _ e with q | ⟨q, _⟩ <;> omega
  · rcases hr _ e with q | ⟨_, q⟩
    · omega
    · exact q rfl
theorem LiS.step {w' : World} (h : LiS d bb bv N w num c ib E wr tv n nv xs lf ks f o) (hB : BOk bb bv N w') (hg : wr.grownBy w' (some bb)) : LiS d bb bv N w num c ib E w' tv n nv xs lf ks f o :=
  h.core (h.C.step hB hg) hg (fun _ e => .inl (Option.some.inj e).symm)
theorem LiS.alloc (h : LiS d bb bv N w num c ib E wr tv n nv xs lf ks f o) (ob : Obj) : LiS d bb bv N w num c ib E (wr.alloc ob) tv n nv xs lf ks f o :=
  h.core (h.C.alloc ob) (World.grownBy_alloc wr ob none) (fun _ e => by cases e)
/-- A callee gives lines and blocks. -/
theorem LiS.setE {E' : World → Prop} {w' : World} (h : LiS d bb bv N w num c ib E wr tv n nv xs lf ks f o) (hB : BOk bb bv N w') (hg : wr.grownBy w' (some bb)) (hE : Side wr.heap.size (fun _ => False) E' w') : LiS d bb bv N w num c ib E' w' tv n nv xs lf ks f o :=
  h.core (h.C.setE hB hg hE) hg (fun _ e => .inl (Option.some.inj e).symm)
/-- The row of texts is grown. -/
theorem LiS.text {w2 : World} {tv' : Value} {n' : Nat} (h : LiS d bb bv N w num c ib E wr tv n nv xs lf ks f o) (hT : Strs (w.heap.size + 2) w2 tv' n' (LM (d + 1))) (hg : wr.grownBy w2 tv.ownBlock) (hf : ∀ g, tv'.ownBlock = some g → tv.ownBlock = some g ∨ wr.heap.size ≤ g) : LiS d bb bv N w num c ib E w2 tv' n' nv xs lf ks f o :=
  h.core (h.C.text hT hg hf) hg (fun g e => .inr ⟨(h.C.T.lt g e).1, fun q => (h.C.X1 ib (.inr rfl)).2.2.2 (by rw [e, q])⟩)
/-- The item's node is written. -/
theorem LiS.item (h : LiS d bb bv N w num c ib E wr tv n nv xs lf ks f o) (hib : w.heap.size + 2 ≤ ib) (j : Nat) (v : Value) (ks' : Value) (f' o' : Int) (e : (itemN ks f o).setIfInBounds j v = itemN ks' f' o') : LiS d bb bv N w num c ib E (wr.setCell ⟨ib, j, none⟩ v) tv n nv xs lf ks' f' o' := by
  have hg := grown_setCell wr ib j v
  have := heap_setCell_same wr ib j _ _ v h.hi
  rw [e] at this
  exact ⟨h.C.cell ib j v (.inl (.inr rfl)), h.hn.keep hg (fun e => by have := Option.some.inj e; omega), h.hr.keep hg (fun e => by have := Option.some.inj e; omega), this⟩
/-- The list's node is written. -/
theorem LiS.list (h : LiS d bb bv N w num c ib E wr tv n nv xs lf ks f o) (hib : w.heap.size + 2 ≤ ib) (j : Nat) (v : Value) (lf' : Bool) (e : (listN num c lf nv).setIfInBounds j v = listN num c lf' nv) : LiS d bb bv N w num c ib E (wr.setCell ⟨w.heap.size + 1, j, none⟩ v) tv n nv xs lf' ks f o := by
  have hg := grown_setCell wr (w.heap.size + 1) j v
  have := heap_setCell_same wr (w.heap.size + 1) j _ _ v h.hn
  rw [e] at this
  exact ⟨h.C.cell (w.heap.size + 1) j v (.inr ⟨by omega, by omega⟩), this, h.hr.keep hg (fun e => by have := Option.some.inj e; omega), h.hi.keep hg (fun e => by have := Option.some.inj e; omega)⟩
/-- The cells that are read. -/
theorem LiS.cells (h : LiS d bb bv N w num c ib E wr tv n nv xs lf ks f o) : wr.cell? ⟨w.heap.size + 1, 3, none⟩ = some (.int .i64 num) ∧ wr.cell? ⟨w.heap.size + 1, 4, none⟩ = some (.string c) ∧ wr.cell? ⟨w.heap.size + 1, 5, none⟩ = some (.bool lf) ∧ wr.cell? ⟨w.heap.size + 1, 7, none⟩ = some nv ∧
    wr.cell? ⟨ib, 7, none⟩ = some ks ∧ wr.cell? ⟨ib, 8, none⟩ = some (.int .i64 f) ∧ wr.cell? ⟨ib, 9, none⟩ = some (.int .i64 o) ∧ (∀ j, wr.frozen? ⟨w.heap.size + 1, j, none⟩ = false) ∧ (∀ j, wr.frozen? ⟨ib, j, none⟩ = false) :=
  ⟨heap_cell h.hn 3, heap_cell h.hn 4, heap_cell h.hn 5, heap_cell h.hn 7, heap_cell h.hi 7, heap_cell h.hi 8, heap_cell h.hi 9, heap_free h.hn, heap_free h.hi⟩
end
/-- Between two items. -/
structure LiT (d : Nat) (bb : Nat) (bv : Value) (N : Nat) (w : World) (num : Int) (c : ByteArray) (wr : World) (tv : Value) (n : Nat) (nv : Value) (xs : List ItemD) (lf : Bool) : Prop where
  C : Core (RI d) bb bv N w (w.heap.size + 2) (fun _ => False) (fun _ => True) wr tv n (LM (d + 1)) nv xs
  hn : ObjIs wr (w.heap.size + 1) (listN num c lf nv) 27
  hr : ObjIs wr w.heap.size zeroN 27
theorem LiT.item {d bb : Nat} {bv : Value} {N : Nat} {w : World} {num : Int} {c : ByteArray} {wr : World} {tv : Value} {n : Nat} {nv : Value} {xs : List ItemD} {lf : Bool} (h : LiT d bb bv N w num c wr tv n nv xs lf) (ks : Value) (f o : Int) :
    LiS d bb bv N w num c wr.heap.size (fun _ => True) (wr.alloc (.cells (itemN ks f o) 27)) tv n nv xs lf ks f o :=
  ⟨h.C.addX _, h.hn.keep (World.grownBy_alloc wr _ none) (fun e => by cases e), h.hr.keep (World.grownBy_alloc wr _ none) (fun e => by cases e), newB1 _ _⟩
theorem liT_start {d bb : Nat} {bv : Value} {N : Nat} {w : World} {num : Int} {c : ByteArray} {wr : World} (h : PreL bb bv N w num c wr) : LiT d bb bv N w num c wr (.slice none 0 0) 0 (.slice none 0 0) [] false :=
  ⟨⟨h.o1, by omega, h.o3, h.G, h.b, Strs.nil _ _ _, ⟨[], OwnR.nil _ _ _ _, Ent.nil, fun _ => rfl⟩, fun g e => by simp [Value.ownBlock] at e, fun g e => e.elim, Side.pure fun _ => trivial⟩, h.hn, h.hr⟩
/-- What lines gives, its values' shapes told. -/
def LinesQ (bb : Nat) (bv : Value) (N : Nat) (w : World) (e : Ending) (w' : World) : Prop := ∃ (g n cap gp np dp : Nat) (is : List Inl), e = .returned (.tuple #[.slice (some ⟨g, 0, none⟩) n cap, .agg (sN 6 ⟨#[]⟩ ⟨#[]⟩ 0 ⟨#[]⟩ false (.slice (some ⟨gp, 0, none⟩) np dp) 0 0)]) ∧ 0 < n ∧ n ≤ 3 ∧ n ≤ cap ∧ cap ≤ 9223372036854775807 ∧ Strs w.heap.size w' (.slice (some ⟨g, 0, none⟩) n cap) n 40 ∧
  Side w.heap.size (fun q => q = g) (fun w2 => Inls 10 SInl w2 (.slice (some ⟨gp, 0, none⟩) np dp) is.length (fun k => is.getD k .soft)) w' ∧ BOk bb bv N w' ∧ w.grownBy w' (some bb)
theorem Strs.form {B : Nat} {w : World} {tv : Value} {n M : Nat} (h : Strs B w tv n M) (hn : 0 < n) : ∃ g cap : Nat, tv = .slice (some ⟨g, 0, none⟩) n cap ∧ n ≤ cap ∧ cap ≤ 9223372036854775807 ∧ B ≤ g ∧ g < w.heap.size := by
  obtain ⟨ss, s1, s2, s3⟩ := h
  rcases s2.2 with ⟨_, h0⟩ | ⟨g, cap, cur, rfl, hb, hg, a, b, _⟩
  · omega
  · exact ⟨g, cap, rfl, a, by unfold maxLen at b; omega, hb, (Array.getElem?_eq_some_iff.1 hg).1⟩
theorem lines_q {bb : Nat} {bv : Value} {N : Nat} {w w' : World} {e : Ending} (h : LinesP bb bv N w e w') : LinesQ bb bv N w e w' := by
  obtain ⟨tv, pv, k, is, rfl, h1, h2, h3, h4, h5, h6, h7⟩ := h
  obtain ⟨g, cap, rfl, q1, q2, _⟩ := h4.form h1
  obtain ⟨cs, hrow, _⟩ := h5.now.row
  rcases hrow with ⟨h0, _⟩ | ⟨gp, dp, rfl, _⟩
  · exact absurd (List.eq_nil_of_length_eq_zero h0) h3
  · refine ⟨g, k, cap, gp, is.length, dp, is, rfl, h1, h2, q1, q2, h4, h5.keep (Nat.le_refl _) (fun _ _ _ _ => rfl) (fun q hq => .inl ?_), h6, h7⟩
    rw [hq]; rfl
/-- What is kept beside is told otherwise. -/
theorem LiS.mapE {d : Nat} {bb : Nat} {bv : Value} {N : Nat} {w : World} {num : Int} {c : ByteArray} {ib : Nat} {E E' : World → Prop} {wr : World} {tv : Value} {n : Nat} {nv : Value} {xs : List ItemD} {lf : Bool} {ks : Value} {f o : Int} (h : LiS d bb bv N w num c ib E wr tv n nv xs lf ks f o)
    (hE : Side (w.heap.size + 2) (av nv (av tv (fun g => False ∨ g = ib))) E' wr) : LiS d bb bv N w num c ib E' wr tv n nv xs lf ks f o :=
  ⟨⟨h.C.o1, h.C.o2, h.C.o3, h.C.G, h.C.b, h.C.T, h.C.K, h.C.D, h.C.X1, hE⟩, h.hn, h.hr, h.hi⟩
theorem StrsR.mono {w : World} {g o n M M' : Nat} (h : StrsR w g o n M) (hM : M ≤ M') : StrsR w g o n M' := fun j hj => by
  obtain ⟨s, h1, h2⟩ := h j hj
  exact ⟨s, h1, Nat.le_trans h2 hM⟩
theorem SB.ups {d e : Nat} {w : World} {cs : Array Value} {p : Option ByteArray} {y : ByteArray} (h : SB d w cs p y) (hde : d ≤ e) : SB e w cs p y := by
  obtain ⟨k, rfl⟩ : ∃ k, e = d + k := ⟨e - d, by omega⟩
  induction k with
  | zero => exact h
  | succ k ih => exact SB.up (ih (by omega))
theorem para_le {z : ByteArray} (h : z.size ≤ 100000) (d : Nat) : (pHTML z).size ≤ SZ d := by
  have := SZ_ge d
  unfold pHTML
  rw [ByteArray.size_append, ByteArray.size_append]
  show 3 + z.size + 5 ≤ _
  omega
theorem LiS.drew {d : Nat} {bb : Nat} {bv : Value} {N : Nat} {w : World} {num : Int} {c : ByteArray} {ib : Nat} {E : World → Prop} {wr : World} {tv : Value} {n : Nat} {nv : Value} {xs : List ItemD} {lf : Bool} {ks : Value} {f o : Int} (h : LiS d bb bv N w num c ib E wr tv n nv xs lf ks f o) : LiS d bb bv N w num c ib E wr.drew tv n nv xs lf ks f o :=
  h.step h.C.b (grown_drew (World.grownBy.refl _ _))
/-- The lines and the inlines of a paragraph. -/
def EPar (gl nl gp np dp : Nat) (is : List Inl) (w2 : World) : Prop := (StrsR w2 gl 0 nl 40 ∧ gl < w2.heap.size) ∧ Inls 10 SInl w2 (.slice (some ⟨gp, 0, none⟩) np dp) is.length (fun k => is.getD k .soft)
theorem epar_side {B : Nat} {w : World} {gl nl cl gp np dp : Nat} {is : List Inl} (hT : Strs B w (.slice (some ⟨gl, 0, none⟩) nl cl) nl 40) (hS : Side B (fun q => q = gl) (fun w2 => Inls 10 SInl w2 (.slice (some ⟨gp, 0, none⟩) np dp) is.length (fun k => is.getD k .soft)) w) : Side B (fun _ => False) (EPar gl nl gp np dp is) w := by
  obtain ⟨h1, h2⟩ := hT.lt gl rfl
  refine Side.and (Side.block (b := gl) (fun w2 hb => ⟨?_, ?_⟩) h1 h2 (fun h => h)) (hS.keep (Nat.le_refl _) (fun _ _ _ _ => rfl) (fun _ h => h.elim))
  · have hT2 : Strs B w2 (.slice (some ⟨gl, 0, none⟩) nl cl) nl 40 := hT.move (fun g e => by
      have e2 : gl = g := by simpa [Value.ownBlock] using e
      rw [← e2]; exact hb) (Nat.le_refl _)
    exact hT2.read
  · rw [Array.getElem?_eq_getElem h2] at hb
    exact (Array.getElem?_eq_some_iff.1 hb).1
/-- A row of one node, laid now. -/
theorem row_one {w2 : World} {kb : Nat} {cs : Array Value} (hb : w2.heap[kb]? = some (.cells cs 27 (0, 0))) : RowN 10 w2 (.slice (some ⟨kb, 0, none⟩) 1 1) 1 (fun _ => cs) := by
  refine .inr ⟨kb, 1, rfl, by omega, by omega, by omega, (Array.getElem?_eq_some_iff.1 hb).1, fun k hk => ?_⟩
  obtain rfl : k = 0 := by omega
  intro j v hj
  rw [Nat.zero_mul, Nat.zero_add, heap_cell hb j]
  simpa using hj
/-- A paragraph's node. -/
theorem para_sb {d : Nat} {w : World} {pv : Value} {is : List Inl} (h : Inls 10 SInl w pv is.length (fun k => is.getD k .soft)) (f o : Int) : SB (d + 1) w (sN 6 ⟨#[]⟩ ⟨#[]⟩ 0 ⟨#[]⟩ false pv f o) (some (catI (fun k => is.getD k .soft) is.length)) (pHTML (catI (fun k => is.getD k .soft) is.length)) :=
  ⟨para_le (catI_le h.le h.ok) d, .inl ⟨pv, f, o, is.length, _, rfl, h, rfl, rfl⟩⟩
theorem LiS.old {d : Nat} {bb : Nat} {bv : Value} {N : Nat} {w : World} {num : Int} {c : ByteArray} {ib : Nat} {E : World → Prop} {wr w' : World} {tv : Value} {n : Nat} {nv : Value} {xs : List ItemD} {lf : Bool} {ks : Value} {f o : Int} (h : LiS d bb bv N w num c ib E wr tv n nv xs lf ks f o) (hb : Below wr.heap.size wr w') : LiS d bb bv N w num c ib E w' tv n nv xs lf ks f o :=
  h.core (h.C.old hb) (r := none) ⟨hb.os, hb.tape, hb.output, hb.size, fun k hk _ => hb.block k hk⟩ (fun _ e => by cases e)
/-- The item is put behind the others, and the list's node holds the row. -/
theorem LiS.next {d : Nat} {bb : Nat} {bv : Value} {N : Nat} {w : World} {num : Int} {c : ByteArray} {ib : Nat} {E : World → Prop} {wr w2 : World} {tv : Value} {n : Nat} {nv : Value} {xs : List ItemD} {lf : Bool} {ks : Value} {f o : Int} {x : ItemD} {g cap k : Nat} {css : List (Array Value)}
    (h : LiS d bb bv N w num c ib E wr tv n nv xs lf ks f o) (hE : ∀ w2, E w2 → RI d w2 (itemN ks f o) x) (hk : ks.oneCell' = true) (k1 : OwnR (wr.alloc (.cells (itemN ks f o) 27)) (w.heap.size + 2) 27 10 nv css)
    (k2 : Ent (RI d) (w.heap.size + 2) (av nv (av tv (fun g => False ∨ g = ib))) css xs (wr.alloc (.cells (itemN ks f o) 27))) (hcl : css.length = k)
    (hown : w2.ownsRow (w.heap.size + 2) 27 10 (.slice (some ⟨g, 0, none⟩) (k + 1) cap) (k + 1) (flat css ++ (itemN ks f o).toList)) (hg : (wr.alloc (.cells (itemN ks f o) 27)).grownBy w2 nv.ownBlock) (hat : nv.ownBlock = some g ∨ g = wr.heap.size + 1) :
    ObjIs w2 (w.heap.size + 1) (listN num c lf nv) 27 ∧ LiT d bb bv N w num c (w2.setCell ⟨w.heap.size + 1, 7, none⟩ (.slice (some ⟨g, 0, none⟩) (k + 1) cap)) tv n (.slice (some ⟨g, 0, none⟩) (k + 1) cap) (xs ++ [x]) lf := by
  have ha := h.alloc (.cells (itemN ks f o) 27)
  have hC := ha.C.node k1 k2 hcl (ha.C.E1.mono hE) rfl (sn_one hk) hown hg (hat.elim .inl fun q => .inr (by rw [World.size_alloc']; omega))
  have ow := ha.C.own
  have hn2 : ObjIs w2 (w.heap.size + 1) (listN num c lf nv) 27 := ha.hn.keep hg (fun e => by have := (ow _ e).1; omega)
  have hr2 : ObjIs w2 w.heap.size zeroN 27 := ha.hr.keep hg (fun e => by have := (ow _ e).1; omega)
  have hg2 := grown_setCell w2 (w.heap.size + 1) 7 (.slice (some ⟨g, 0, none⟩) (k + 1) cap)
  exact ⟨hn2, (((hC.cell (w.heap.size + 1) 7 _ (.inr ⟨by omega, by omega⟩)).dropX (fun _ (q : False) => q.elim)).monoE (fun _ _ => trivial)), heap_setCell_same w2 (w.heap.size + 1) 7 _ _ _ hn2, hr2.keep hg2 (fun e => by have := Option.some.inj e; omega)⟩
theorem below_ofDrew {B : Nat} {a b : World} (h : Below B a.drew b) : Below B a b := ⟨h.os, h.tape, h.output, h.size, h.block⟩
/-- Nothing is appended, at a step of a region that draws. -/
theorem step_append_none {P : Program} {w : World} {ops : Array Oper} {o : Oper} {a : Act} {K : Act → World → Prop} {Q : Exit → Act → World → Prop} {E : Prop} (hgd : o.guard = none) (s x : Operand) (t : TypeId)
    (ho : o.op = .call { callee := .builtin .append, args := #[s, x], argTypes := #[t, t] }) (base : Nat) (e : TypeId) (i : TypeInfo) (size : Nat) (ht : P.underlying t = some (.slice e)) (hi : P.info? e = some i)
    (v : Value) (n : Nat) (xs : List Value) (hs : a.eval s = v) (hown : w.ownsRow base e size v n xs) (hx : a.eval x = .slice none 0 0) (h : K (a.put o.dst v) w) : if Region.wanted o (yielded ops a.tmps) = true then Oper.wp P o a w K Q else E := by
  have hw : Region.wanted o (yielded ops a.tmps) = true := by simp [Region.wanted, hgd]
  rw [if_pos hw]
  unfold Oper.wp execOp
  simp only [ho, resolve, invoke, builtin, Sem.run_bind, Sem.run_pure, Result.andThen_ok, List.map_toArray, List.map_cons, List.map_nil, hs, hx, run_append_owned_none w base t o.type e i size ht hi v n xs hown]
  exact h
theorem y_le {d : Nat} {w : World} {cs : Array Value} {p : Option ByteArray} {y : ByteArray} (h : SB (d + 1) w cs p y) (l : Bool) : (yOf l p y).size ≤ SZ d := by
  have hy := h.1
  have hp : ∀ z, p = some z → z.size ≤ SZ d := fun z hz => by
    rcases h.2 with ⟨_, _, _, n, is, _, h2, h3, h4⟩ | ⟨_, _, _, _, _, _, _, _, _, _, h2, _⟩ | ⟨_, _, _, h2, _⟩ | ⟨_, _, _, _, _, _, h2, _⟩ | ⟨_, _, _, _, _, _, _, _, h2, _⟩ | ⟨_, _, _, _, _, _, _, _, _, _, _, h2, _⟩
    · have := SZ_ge d
      have h5 := catI_le h2.le h2.ok
      rw [h3] at hz
      rw [← Option.some.inj hz]; omega
    all_goals (rw [h2] at hz; cases hz)
  unfold yOf
  split
  · exact hy
  · cases hpp : p with
    | none => exact hy
    | some z => exact hp z hpp
theorem it_le {ts : Nat → Bool} {ys : Nat → ByteArray} {m M : Nat} (hm : m ≤ 2) (h : ∀ k, k < m → (ys k).size ≤ M) : (itHTML ts ys m).size ≤ 2 * M + 20 := by
  have h1 : ∀ k, k < m → (itPiece ts ys m k).size ≤ M + 1 := fun k hk => by
    have := h k hk
    unfold itPiece
    rw [ByteArray.size_append]
    split
    · show _ + 1 ≤ _; omega
    · show _ + 0 ≤ _; omega
  have h2 := cat_le (ys := itPiece ts ys m) m h1
  have h3 : (M + 1) * m ≤ (M + 1) * 2 := Nat.mul_le_mul_left _ hm
  unfold itHTML
  rw [ByteArray.size_append, ByteArray.size_append, ByteArray.size_append]
  have h4 : (if 0 < m ∧ ts 0 = false then (⟨#[10]⟩ : ByteArray) else ⟨#[]⟩).size ≤ 1 := by
    split
    · exact Nat.le_refl _
    · exact Nat.zero_le _
  have e1 : (⟨#[60, 108, 105, 62]⟩ : ByteArray).size = 4 := rfl
  have e2 : (⟨#[60, 47, 108, 105, 62, 10]⟩ : ByteArray).size = 6 := rfl
  omega
theorem l_le (num : Int) (z : ByteArray) : (lHTML num z).size ≤ z.size + 30 := by
  have e1 : (⟨#[60, 117, 108, 62, 10]⟩ : ByteArray).size = 5 := rfl
  have e2 : (⟨#[60, 47, 117, 108, 62, 10]⟩ : ByteArray).size = 6 := rfl
  have e3 : (⟨#[60, 111, 108]⟩ : ByteArray).size = 3 := rfl
  have e4 : (⟨#[62, 10]⟩ : ByteArray).size = 2 := rfl
  have e5 : (⟨#[60, 47, 111, 108, 62, 10]⟩ : ByteArray).size = 6 := rfl
  have e6 : (⟨#[32, 115, 116, 97, 114, 116, 61, 34]⟩ : ByteArray).size = 8 := rfl
  have e7 : (⟨#[34]⟩ : ByteArray).size = 1 := rfl
  have hd := dig_le num.toNat
  have hs : (startH num).size ≤ 11 := by
    unfold startH
    split
    · exact Nat.zero_le _
    · rw [ByteArray.size_append, ByteArray.size_append]; omega
  unfold lHTML
  split <;> simp only [ByteArray.size_append] <;> omega
/-- A list, given back. -/
theorem list_end {d : Nat} {bb : Nat} {bv : Value} {N : Nat} {w : World} {num : Int} {c : ByteArray} {wr W : World} {tv : Value} {n : Nat} {nv : Value} {xs : List ItemD} {lf : Bool} {k L : Nat} (T : LiT d bb bv N w num c wr tv n nv xs lf) (hmk : markOk num c) (hx : xs.length = k) (hk : 0 < k) (hk2 : k ≤ 3) (hn : 0 < n) (hL : n ≤ L) (hg : wr.grownBy W (some w.heap.size)) :
    NodeP (SBx (d + 1)) bb bv N L (LM (d + 1)) w (.returned (.tuple #[tv, .agg (listN num c lf nv)])) W := by
  have C := T.C.write hg (.inr ⟨by omega, Nat.le_refl _⟩)
  obtain ⟨g, cap, rfl, q1, q2, hbg, hgl⟩ := C.T.form hn
  obtain ⟨css, k1, k2, k3⟩ := C.K
  have hcl : css.length = k := k2.1.trans hx
  have hrow := k1.row (by omega) (w2 := W) (fun _ _ => rfl)
  refine ⟨g, n, cap, listN num c lf nv, (none, lHTML num (catY (fun q => itHTML (fun j => tOf lf ((xs.getD q (0, fun _ => none, fun _ => ByteArray.empty)).2.1 j)) (fun j => yOf lf ((xs.getD q (0, fun _ => none, fun _ => ByteArray.empty)).2.1 j) ((xs.getD q (0, fun _ => none, fun _ => ByteArray.empty)).2.2 j)) (xs.getD q (0, fun _ => none, fun _ => ByteArray.empty)).1) k)), rfl, hn, hL, q1, q2, rfl, sn_one hrow.one, ?_, C.b, C.G⟩
  refine (Held.side (A := fun _ => False) (fun w2 hw => ⟨⟨?_, ?_⟩, ?_⟩) (fun _ h => h.elim) : Side (w.heap.size + 2) _ _ W).base (by omega)
  · have hT : Strs (w.heap.size + 2) w2 (.slice (some ⟨g, 0, none⟩) n cap) n (LM (d + 1)) := C.T.move (fun q e => hw q (C.T.lt q e).1 (C.T.lt q e).2) (Nat.le_refl _)
    exact hT.read
  · have hb := hw g hbg hgl
    rw [Array.getElem?_eq_getElem hgl] at hb
    exact (Array.getElem?_eq_some_iff.1 hb).1
  · have hit : ∀ q, q < k → RI d w2 (css.getD q #[]) (xs.getD q (0, fun _ => none, fun _ => ByteArray.empty)) := fun q hq => by
      have hq1 : css[q]? = some (css.getD q #[]) := by rw [List.getD_eq_getElem?_getD, List.getElem?_eq_getElem (by omega), Option.getD_some]
      have hq2 : xs[q]? = some (xs.getD q (0, fun _ => none, fun _ => ByteArray.empty)) := by rw [List.getD_eq_getElem?_getD, List.getElem?_eq_getElem (by omega), Option.getD_some]
      exact (k2.2 q _ _ hq1 hq2).all w2 hw
    refine ⟨?_, .inr (.inr (.inr (.inr (.inr ⟨nv, 0, 0, num, c, lf, k, _, rfl, hmk, ⟨hk, by omega, fun q => css.getD q #[], ?_, fun q hq => ?_⟩, rfl, rfl⟩))))⟩
    · refine Nat.le_trans (l_le _ _) ?_
      have h1 := cat_le (ys := fun q => itHTML (fun j => tOf lf ((xs.getD q (0, fun _ => none, fun _ => ByteArray.empty)).2.1 j)) (fun j => yOf lf ((xs.getD q (0, fun _ => none, fun _ => ByteArray.empty)).2.1 j) ((xs.getD q (0, fun _ => none, fun _ => ByteArray.empty)).2.2 j)) (xs.getD q (0, fun _ => none, fun _ => ByteArray.empty)).1) (m := 2 * SZ d + 20) k (fun q hq => by
        obtain ⟨ks, f, o, e1, e2, e3, e4, cs, e5, e6⟩ := hit q hq
        exact it_le e2 (fun j hj => y_le (e6 j hj) lf))
      have h2 : (2 * SZ d + 20) * k ≤ (2 * SZ d + 20) * 3 := Nat.mul_le_mul_left _ hk2
      have h3 := SZ_succ d
      have h4 := SZ_ge d
      omega
    · have := k1.row (by omega) (w2 := w2) (fun q e => hw q (k1.lt q e).1 (k1.lt q e).2)
      rw [hcl] at this
      exact this
    · obtain ⟨ks, f, o, e1, e2, e3⟩ := hit q hq
      exact ⟨ks, f, o, _, _, _, e1, e2, e3, rfl⟩
end Go.Proofs.YtipniinmajoolaaGreatDoor
