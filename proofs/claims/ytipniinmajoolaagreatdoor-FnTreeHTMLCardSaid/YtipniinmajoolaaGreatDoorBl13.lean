/- One block: builder.block. Its state, and laws on whole structs stored. Conditions: as each states them. -/
import Derived.Test.YtipniinmajoolaaGreatDoorBl11
namespace Go.Proofs.YtipniinmajoolaaGreatDoor
open Go.RowKit
theorem Wr.row {w : World} {g : Nat} {c c' : Array Value} {T : TypeId} (h : ObjIs w g c T) : Wr w (w.setRow g c') g c' T :=
  ⟨setRow_heap w g c c' T (0, 0) h, rfl, rfl, rfl, by simp, fun k _ hk => by
    simp only [World.setRow, Array.getElem?_modify]
    rw [if_neg (fun e => hk (by rw [e]))]⟩
section
variable {P : Program}
theorem wpList_store_obj {ops : Array Oper} {rest : List Oper} {op : Oper} {a : Act} {w : World} {Q : Exit → Act → World → Prop} (hgd : op.guard = none) (ty : TypeId) (x y : Operand) (ho : op.op = .store ty x y)
    (g : Nat) (c c' : Array Value) (hb : ObjIs w g c ty) (hx : a.eval x = .pointer (some ⟨g, 0, none⟩)) (hy : a.eval y = .agg c') (hi : (P.info? ty).map (·.size) = some c'.size) (hs : c.size = c'.size) (h1 : c'.all (·.oneCell') = true)
    (h : ∀ w', Wr w w' g c' ty → wpList P ops Q rest (a.put op.dst undef) w') : wpList P ops Q (op :: rest) a w :=
  wpList_plain hgd fun K hK => by
    unfold Oper.wp execOp
    simp only [ho, hx, hy, Instr.storeAt, Instr.sureAddr, Sem.run_bind, Sem.run_pure, Result.andThen_ok, run_storeVar_row w g ty ty c c' hb hi hs h1]
    exact hK _ _ (h _ (Wr.row hb))
end
/-- builder.block under way. -/
structure BkS (bb : Nat) (bv : Value) (N : Nat) (w wr : World) : Prop where
  o1 : bb < w.heap.size
  o3 : w.heap.size < wr.heap.size
  G : w.grownBy wr (some bb)
  b : BOk bb bv N wr
  hr : ObjIs wr w.heap.size zeroN 27
section
variable {bb : Nat} {bv : Value} {N : Nat} {w wr : World}
theorem BkS.step {w' : World} (h : BkS bb bv N w wr) (hB : BOk bb bv N w') (hg : wr.grownBy w' (some bb)) : BkS bb bv N w w' := by
  have o1 := h.o1
  exact ⟨h.o1, Nat.lt_of_lt_of_le h.o3 hg.size, grown_trans h.G hg, hB, h.hr.keep hg (fun e => by have := Option.some.inj e; omega)⟩
theorem BkS.old {w' : World} (h : BkS bb bv N w wr) (hb : Below wr.heap.size wr w') : BkS bb bv N w w' :=
  h.step (h.b.old hb.size fun j hj => hb.block j (by have := h.b.lt; omega)) ⟨hb.os, hb.tape, hb.output, hb.size, fun k hk _ => hb.block k hk⟩
theorem BkS.alloc (h : BkS bb bv N w wr) (o : Obj) : BkS bb bv N w (wr.alloc o) := h.old ((Below.refl _ _).alloc (Nat.le_refl _) _)
/-- A newer block is written. -/
theorem BkS.newer {w' : World} {r : Option Nat} (h : BkS bb bv N w wr) (hg : wr.grownBy w' r) (hr : ∀ k, r = some k → w.heap.size < k) : BkS bb bv N w w' := by
  have o1 := h.o1
  refine ⟨h.o1, Nat.lt_of_lt_of_le h.o3 hg.size, grown_own h.G hg (fun k hk => Nat.le_of_lt (hr k hk)), h.b.old hg.size (fun j hj => hg.block j (by have := h.b.lt; omega) (fun e => by have := hr j e.symm; omega)), h.hr.keep hg (fun e => by have := hr _ e; omega)⟩
theorem bkS_start (hB : BOk bb bv N w) : BkS bb bv N w (w.alloc (.cells zeroN 27)) :=
  ⟨hB.lt, by rw [World.size_alloc']; omega, World.grownBy_alloc _ _ _, hB.alloc _, newB1 _ _⟩
/-- The builder's own counters. -/
theorem BOk.count (h : BOk bb bv N w) : ∃ (sz dp : Int), w.cell? ⟨bb, 2, none⟩ = some (.int .i64 sz) ∧ w.cell? ⟨bb, 4, none⟩ = some (.int .i64 dp) ∧ (∀ j, w.frozen? ⟨bb, j, none⟩ = false) ∧ (∀ v, BOk bb bv N (w.setCell ⟨bb, 2, none⟩ (.int .i64 v)) ∧ BOk bb bv N (w.setCell ⟨bb, 4, none⟩ (.int .i64 v))) := by
  obtain ⟨a, sz, dp, h1, h2, h3⟩ := h
  exact ⟨sz, dp, heap_cell h2 2, heap_cell h2 4, heap_free h2, fun v => ⟨⟨a, v, dp, h1, heap_setCell_same w bb 2 _ _ _ h2, h3.grown (grown_setCell _ _ _ _)⟩, ⟨a, sz, v, h1, heap_setCell_same w bb 4 _ _ _ h2, h3.grown (grown_setCell _ _ _ _)⟩⟩⟩
/-- What is given back. -/
theorem BkS.done {ι : Type} {R : World → Array Value → ι → Prop} {w' W : World} {L M g n cap : Nat} {cs : Array Value} {x : ι} {B : Nat} {A : Nat → Prop} (h : BkS bb bv N w w') (hW : Wr w' W w.heap.size cs 27) (h0 : 0 < n) (hL : n ≤ L) (h1 : n ≤ cap) (h2 : cap ≤ 9223372036854775807) (h3 : cs.size = 10) (h4 : cs.all (·.oneCell') = true)
    (hB : w.heap.size < B) (hS : Side B A (fun w2 => (StrsR w2 g 0 n M ∧ g < w2.heap.size) ∧ R w2 cs x) w') : NodeP R bb bv N L M w (.returned (.tuple #[.slice (some ⟨g, 0, none⟩) n cap, .agg cs])) W := by
  have o1 := h.o1
  refine ⟨g, n, cap, cs, x, rfl, h0, hL, h1, h2, h3, h4, (hS.keep hW.2.size (fun j a b _ => hW.2.block j b (fun e => by have := Option.some.inj e; omega)) (A' := fun _ => False) (fun _ q => q.elim)).base (by omega), h.b.old hW.2.size (fun j hj => hW.2.block j (by have := h.b.lt; omega) (fun e => by have := Option.some.inj e; omega)), grown_own h.G hW.2 (fun k hk => by have := Option.some.inj hk; omega)⟩
/-- Strings that a call laid, as what is kept beside. -/
theorem strs_side {B g n cap M : Nat} {w : World} (hT : Strs B w (.slice (some ⟨g, 0, none⟩) n cap) n M) : Side B (fun _ => False) (fun w2 => StrsR w2 g 0 n M ∧ g < w2.heap.size) w := by
  obtain ⟨h1, h2⟩ := hT.lt g rfl
  refine Side.block (b := g) (fun w2 hb => ⟨?_, ?_⟩) h1 h2 (fun h => h)
  · have hT2 : Strs B w2 (.slice (some ⟨g, 0, none⟩) n cap) n M := hT.move (fun q e => by
      have e2 : g = q := by simpa [Value.ownBlock] using e
      rw [← e2]; exact hb) (Nat.le_refl _)
    exact hT2.read
  · rw [Array.getElem?_eq_getElem h2] at hb
    exact (Array.getElem?_eq_some_iff.1 hb).1
end
/-- The inlines of a line, as a row that is read. -/
theorem line_inls {is : List Inl} {css : List (Array Value)} {lv : Value} {w2 : World} (h : RowK lv css is w2) (hc : css.length = is.length) (hl : is.length ≤ 100) (hok : ∀ i ∈ is, i.ok) : Inls 10 SInl w2 lv is.length (fun k => is.getD k .soft) := by
  refine ⟨hl, fun k hk => ?_, fun k => css.getD k #[], by rw [← hc]; exact h.1, fun k hk => ?_⟩
  · rw [List.getD_eq_getElem?_getD, List.getElem?_eq_getElem hk, Option.getD_some]
    exact hok _ (List.getElem_mem hk)
  · obtain ⟨x, h1, h2⟩ := h.2 k (by omega)
    rw [List.getD_eq_getElem?_getD, h1, Option.getD_some]
    exact h2
theorem h_le {z : ByteArray} (h : z.size ≤ 100000) (n d : Nat) : (hHTML n z).size ≤ SZ d := by
  have := SZ_ge d
  have hd := dig_le n
  have e1 : (⟨#[60, 104]⟩ : ByteArray).size = 2 := rfl
  have e2 : (⟨#[62]⟩ : ByteArray).size = 1 := rfl
  have e3 : (⟨#[60, 47, 104]⟩ : ByteArray).size = 3 := rfl
  have e4 : (⟨#[62, 10]⟩ : ByteArray).size = 2 := rfl
  unfold hHTML
  simp only [ByteArray.size_append]
  omega
/-- A heading's node. -/
theorem head_sb {d : Nat} {w : World} {pv : Value} {is : List Inl} (h : Inls 10 SInl w pv is.length (fun k => is.getD k .soft)) (n : Nat) (h1 : 1 ≤ n) (h2 : n ≤ 6) (f o : Int) : SB (d + 1) w (sN 5 ⟨#[]⟩ ⟨#[]⟩ n ⟨#[]⟩ false pv f o) none (hHTML n (catI (fun k => is.getD k .soft) is.length)) :=
  ⟨h_le (catI_le h.le h.ok) n d, .inr (.inl ⟨pv, f, o, is.length, n, _, rfl, h1, h2, h, rfl, rfl⟩)⟩
theorem code_sb {d : Nat} {w : World} {t x : ByteArray} (h : codeOk t x) (f o : Int) : SB (d + 1) w (sN 7 x t 0 ⟨#[]⟩ false (.slice none 0 0) f o) none (cHTML t x) := by
  refine ⟨?_, .inr (.inr (.inr (.inl ⟨t, x, f, o, rfl, h, rfl, rfl⟩)))⟩
  obtain ⟨h1, h2, h3, h4, h5⟩ := h
  have := SZ_ge d
  have e1 := esc_le x x.size
  have e2 := esc_le t t.size
  have e3 : (langH t).size ≤ 18 + 60 := by
    unfold langH
    split
    · exact Nat.zero_le _
    · simp only [ByteArray.size_append]
      have e4 : (⟨#[32, 99, 108, 97, 115, 115, 61, 34, 108, 97, 110, 103, 117, 97, 103, 101, 45]⟩ : ByteArray).size = 17 := rfl
      have e5 : (⟨#[34]⟩ : ByteArray).size = 1 := rfl
      omega
  have e4 : (⟨#[60, 112, 114, 101, 62, 60, 99, 111, 100, 101]⟩ : ByteArray).size = 10 := rfl
  have e5 : (⟨#[62]⟩ : ByteArray).size = 1 := rfl
  have e6 : (⟨#[60, 47, 99, 111, 100, 101, 62, 60, 47, 112, 114, 101, 62, 10]⟩ : ByteArray).size = 14 := rfl
  unfold cHTML
  simp only [ByteArray.size_append]
  omega
/-- An info string: small letters, or nothing. -/
def WT (t : ByteArray) : Prop := t.size ≤ 4 ∧ ∀ k, k < t.size → 97 ≤ bt t k ∧ bt t k ≤ 122
theorem own_one_str (w : World) (x : ByteArray) : (w.alloc (.cells #[.string x] 9)).ownsRow w.heap.size 9 1 (.slice (some ⟨w.heap.size, 0, none⟩) 1 1) 1 ([x].map .string) :=
  ⟨rfl, .inr ⟨w.heap.size, 1, #[.string x], rfl, Nat.le_refl _, heap_alloc_new w _, Nat.le_refl _, by unfold maxLen; omega, rfl, rfl⟩⟩
theorem break_sb {d : Nat} {w : World} (f o : Int) : SB (d + 1) w (sN 9 ⟨#[]⟩ ⟨#[]⟩ 0 ⟨#[]⟩ false (.slice none 0 0) f o) none brHTML :=
  ⟨by have := SZ_ge d; have e : brHTML.size = 7 := rfl; omega, .inr (.inr (.inl ⟨f, o, rfl, rfl, rfl⟩))⟩
theorem quote_sb {d : Nat} {w : World} {ks : Value} {n : Nat} {ps : Nat → Option ByteArray} {ys : Nat → ByteArray} (h : Kids 10 (SB (d + 1) w) w ks n ps ys) (hn : n ≤ 3) (f o : Int) : SB (d + 2) w (sN 2 ⟨#[]⟩ ⟨#[]⟩ 0 ⟨#[]⟩ false ks f o) none (qHTML (catY ys n)) := by
  refine ⟨?_, .inr (.inr (.inr (.inr (.inl ⟨ks, f, o, n, ps, ys, rfl, h, rfl, rfl⟩))))⟩
  obtain ⟨h1, h2, cs, h3, h4⟩ := h
  have h5 := cat_le (ys := ys) (m := SZ d) n (fun k hk => (h4 k hk).1)
  have h6 : SZ d * n ≤ SZ d * 3 := Nat.mul_le_mul_left _ hn
  have := SZ_ge d
  have := SZ_succ d
  have e1 : (⟨#[60, 98, 108, 111, 99, 107, 113, 117, 111, 116, 101, 62, 10]⟩ : ByteArray).size = 13 := rfl
  have e2 : (⟨#[60, 47, 98, 108, 111, 99, 107, 113, 117, 111, 116, 101, 62, 10]⟩ : ByteArray).size = 14 := rfl
  unfold qHTML
  simp only [ByteArray.size_append]
  omega
end Go.Proofs.YtipniinmajoolaaGreatDoor
