/- The thin package's nodes of a tree, by the HTML that they mean. Plain definitions and what carries them from world to world. Conditions: as each states them. -/
import Derived.Test.YtipniinmajoolaaGreatDoorTr2
namespace Go.Proofs.YtipniinmajoolaaGreatDoor
open Go.RowKit
/-- Blocks in a row, each read by R: whether it is to be a Text, its HTML. -/
def KidsI (sz : Nat) (R : Array Value → Bool → ByteArray → Prop) (w : World) (ks : Value) (n : Nat) (ts : Nat → Bool) (ys : Nat → ByteArray) : Prop :=
  0 < n ∧ n ≤ 4 ∧ ∃ cs : Nat → Array Value, RowN sz w ks n cs ∧ ∀ k, k < n → R (cs k) (ts k) (ys k)
theorem KidsI.moved {sz : Nat} {R R' : Array Value → Bool → ByteArray → Prop} {w w' : World} {ks : Value} {n : Nat} {ts : Nat → Bool} {ys : Nat → ByteArray} (h : KidsI sz R w ks n ts ys)
    (hb : Below w.heap.size w w') (hR : ∀ cs t y, R cs t y → R' cs t y) : KidsI sz R' w' ks n ts ys := by
  obtain ⟨h1, h2, cs, h3, h4⟩ := h
  exact ⟨h1, h2, cs, h3.below hb, fun k hk => hR _ _ _ (h4 k hk)⟩
/-- An item of a list as a node of the thin package. -/
def IItem (R : Array Value → Bool → ByteArray → Prop) (w : World) (cs : Array Value) (y : ByteArray) : Prop :=
  ∃ (ks : Value) (m : Nat) (ts : Nat → Bool) (ys : Nat → ByteArray), cs = iN 4 ⟨#[]⟩ ⟨#[]⟩ 0 ⟨#[]⟩ false ks ⟨#[]⟩ 4 false ∧ m ≤ 2 ∧ KidsI 16 R w ks m ts ys ∧ y = itHTML ts ys m
/-- A block as a node of the thin package: t: a paragraph that is to be a Text; y: its HTML. -/
def IB : Nat → World → Array Value → Bool → ByteArray → Prop
  | 0, _, _, _, _ => False
  | d + 1, w, cs, t, y =>
    ((∃ (ks : Value) (n : Nat) (is : Nat → Inl), cs = iN 6 ⟨#[]⟩ ⟨#[]⟩ 0 ⟨#[]⟩ false ks ⟨#[]⟩ 0 t ∧ Inls 16 IInl w ks n is ∧ y = (if t = true then catI is n else pHTML (catI is n))) ∨
     (∃ (ks : Value) (n h : Nat) (is : Nat → Inl), cs = iN 5 ⟨#[]⟩ ⟨#[]⟩ h ⟨#[]⟩ false ks ⟨#[]⟩ 0 false ∧ 1 ≤ h ∧ h ≤ 6 ∧ Inls 16 IInl w ks n is ∧ t = false ∧ y = hHTML h (catI is n)) ∨
     (cs = iN 9 ⟨#[]⟩ ⟨#[]⟩ 0 ⟨#[]⟩ false (.slice none 0 0) ⟨#[42, 42, 42]⟩ 0 false ∧ t = false ∧ y = brHTML) ∨
     (∃ ti x : ByteArray, cs = iN 7 x ti 0 ⟨#[]⟩ false (.slice none 0 0) ⟨#[96, 96, 96]⟩ 0 false ∧ codeOk ti x ∧ t = false ∧ y = cHTML ti x) ∨
     (∃ (ks : Value) (n : Nat) (ts : Nat → Bool) (ys : Nat → ByteArray), cs = iN 2 ⟨#[]⟩ ⟨#[]⟩ 0 ⟨#[]⟩ false ks ⟨#[]⟩ 0 false ∧ KidsI 16 (IB d w) w ks n ts ys ∧ (∀ k, k < n → ts k = false) ∧ t = false ∧ y = qHTML (catY ys n)) ∨
     (∃ (ks : Value) (num : Int) (c : ByteArray) (l : Bool) (n : Nat) (zs : Nat → ByteArray), cs = iN 3 ⟨#[]⟩ ⟨#[]⟩ num c l ks ⟨#[]⟩ 0 false ∧ markOk num c ∧
        KidsI 16 (fun cs _ y => IItem (IB d w) w cs y) w ks n (fun _ => false) zs ∧ t = false ∧ y = lHTML num (catY zs n)))
theorem IItem.moved {R R' : Array Value → Bool → ByteArray → Prop} {w w' : World} {cs : Array Value} {y : ByteArray} (h : IItem R w cs y) (hb : Below w.heap.size w w') (hR : ∀ cs t y, R cs t y → R' cs t y) : IItem R' w' cs y := by
  obtain ⟨ks, m, ts, ys, h1, h2, h3, h4⟩ := h
  exact ⟨ks, m, ts, ys, h1, h2, h3.moved hb hR, h4⟩
theorem IB.below : ∀ {d : Nat} {w w' : World} {cs : Array Value} {t : Bool} {y : ByteArray}, IB d w cs t y → Below w.heap.size w w' → IB d w' cs t y
  | 0, _, _, _, _, _, h, _ => h.elim
  | d + 1, w, w', cs, t, y, h, hb => by
    have ih : ∀ cs t y, IB d w cs t y → IB d w' cs t y := fun cs t y h => IB.below h hb
    rcases h with ⟨ks, n, is, h1, h2, h3⟩ | ⟨ks, n, hh, is, h1, h2, h3, h4, h5⟩ | h | h | ⟨ks, n, ts, ys, h1, h2, h3⟩ | ⟨ks, num, c, l, n, zs, h1, h2, h3, h4⟩
    · exact .inl ⟨ks, n, is, h1, h2.below hb fun _ _ h => h.below hb, h3⟩
    · exact .inr (.inl ⟨ks, n, hh, is, h1, h2, h3, h4.below hb fun _ _ h => h.below hb, h5⟩)
    · exact .inr (.inr (.inl h))
    · exact .inr (.inr (.inr (.inl h)))
    · exact .inr (.inr (.inr (.inr (.inl ⟨ks, n, ts, ys, h1, h2.moved hb ih, h3⟩))))
    · exact .inr (.inr (.inr (.inr (.inr ⟨ks, num, c, l, n, zs, h1, h2, h3.moved hb fun _ _ _ h => h.moved hb ih, h4⟩))))
end Go.Proofs.YtipniinmajoolaaGreatDoor
