/- What the package's ZZInlineHTML gives of a row of plain texts and code spans. Conditions: sizes, as each states them. -/
import Derived.Test.YtipniinmajoolaaGreatDoorMrg1
namespace Go.Proofs.YtipniinmajoolaaGreatDoor
open Go.RowKit
/-- A plain text (true) or a code span (false) with the text x. -/
def LeafQ (w : World) (v : Value) (p : Bool) (x : ByteArray) : Prop := ∃ g : Nat, (p = true ∧ v = .iface 178 (ptr g) ∧ ObjAt w g #[.string x] 175) ∨ (p = false ∧ v = .iface 151 (ptr g) ∧ ObjAt w g #[.string x] 153)
theorem LeafQ.kept {B b : Nat} {t x : ByteArray} {p : Bool} {v : Value} {w w' : World} (hl : LeafQ w v p x) (h : HoldsU B b t w) (hk : Lib.OthersKept 5 (some b) w w') : LeafQ w' v p x := by
  obtain ⟨g, h3⟩ := hl
  refine ⟨g, ?_⟩
  rcases h3 with ⟨e0, e, ho⟩ | ⟨e0, e, ho⟩
  · exact .inl ⟨e0, e, ho.kept h hk (by decide) (by decide)⟩
  · exact .inr ⟨e0, e, ho.kept h hk (by decide) (by decide)⟩
theorem LeafQ.below {p : Bool} {x : ByteArray} {v : Value} {w w' : World} (hl : LeafQ w v p x) (hb : Below w.heap.size w w') : LeafQ w' v p x := by
  obtain ⟨g, h3⟩ := hl
  refine ⟨g, ?_⟩
  rcases h3 with ⟨e0, e, ho⟩ | ⟨e0, e, ho⟩
  · exact .inl ⟨e0, e, ho.below hb ho.lt⟩
  · exact .inr ⟨e0, e, ho.below hb ho.lt⟩
/-- A row of inlines. -/
def RowP (w : World) (r n : Nat) (vs : Nat → Value) : Prop := ∃ cur, ObjAt w r cur 141 ∧ ∀ k, k < n → cur[k]? = some (vs k)
theorem RowP.kept {B b r n : Nat} {t : ByteArray} {vs : Nat → Value} {w w' : World} (hl : RowP w r n vs) (h : HoldsU B b t w) (hk : Lib.OthersKept 5 (some b) w w') : RowP w' r n vs := by
  obtain ⟨cur, h1, h2⟩ := hl
  exact ⟨cur, h1.kept h hk (by decide) (by decide), h2⟩
theorem RowP.below {r n : Nat} {vs : Nat → Value} {w w' : World} (hl : RowP w r n vs) (hb : Below w.heap.size w w') : RowP w' r n vs := by
  obtain ⟨cur, h1, h2⟩ := hl
  exact ⟨cur, h1.below hb h1.lt, h2⟩
theorem RowP.cell {r n k : Nat} {vs : Nat → Value} {w : World} (hl : RowP w r n vs) (hk : k < n) : w.cell? ⟨r, k, none⟩ = some (vs k) := by
  obtain ⟨cur, h1, h2⟩ := hl
  rw [h1.cell, h2 k hk]
def catY (ys : Nat → ByteArray) : Nat → ByteArray
  | 0 => ByteArray.empty
  | k + 1 => catY ys k ++ ys k
theorem cat_le {ys : Nat → ByteArray} {m : Nat} : ∀ n, (∀ k, k < n → (ys k).size ≤ m) → (catY ys n).size ≤ m * n
  | 0, _ => by simp [catY]
  | n + 1, h => by
    have h1 := cat_le n (fun k hk => h k (by omega))
    have h2 := h n (by omega)
    rw [catY, ByteArray.size_append, Nat.mul_succ]; omega
theorem cat_step (t : ByteArray) (ys : Nat → ByteArray) (k : Nat) : t ++ catY ys (k + 1) = t ++ catY ys k ++ ys k := by rw [catY, ByteArray.append_assoc]
/-- The HTML of one. -/
def htmlQ (p : Bool) (x : ByteArray) : ByteArray := if p = true then escF x x.size else codeS x
theorem htmlQ_le (p : Bool) (x : ByteArray) (hx : x.size ≤ 10000) : (htmlQ p x).size ≤ 60013 := by
  have h1 := esc_le x x.size
  have h2 := code_le x
  unfold htmlQ; split <;> omega
abbrev bufW (w : World) : World := w.alloc (.cells #[.slice none 0 0, .int .i64 0, .int .i8 0] 55)
theorem buf_below (w : World) : Below w.heap.size w (bufW w) := (Below.refl _ _).alloc (Nat.le_refl _) _
end Go.Proofs.YtipniinmajoolaaGreatDoor
