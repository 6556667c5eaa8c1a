/- The trees of FnTreeHTML in memory: inlines and blocks as the reference's nodes, the thin package's nodes and the package's own blocks, by the HTML that they mean. Plain definitions and what carries them from world to world. Conditions: as each states them. -/
import Derived.Test.YtipniinmajoolaaGreatDoorMrg3
namespace Go.Proofs.YtipniinmajoolaaGreatDoor
open Go.RowKit
/-- The cells of a node of the reference. -/
abbrev sN (k : Int) (t ti : ByteArray) (n : Int) (c : ByteArray) (l : Bool) (ks : Value) (f o : Int) : Array Value := #[.int .i64 k, .string t, .string ti, .int .i64 n, .string c, .bool l, .slice none 0 0, ks, .int .i64 f, .int .i64 o]
/-- The cells of a node of the thin package. -/
abbrev iN (k : Int) (t ti : ByteArray) (n : Int) (c : ByteArray) (l : Bool) (ks : Value) (m : ByteArray) (wd : Int) (tg : Bool) : Array Value := #[.int .i64 k, .string t, .string ti, .int .i64 n, .string c, .bool l, .slice none 0 0, ks, .int .i64 0, .int .i64 0, .string m, .int .i64 wd, .bool tg, .bool false, .bool false, .slice none 0 0]
/-- A row of n structs of sz cells each, behind a slice. -/
def RowN (sz : Nat) (w : World) (ks : Value) (n : Nat) (cs : Nat → Array Value) : Prop :=
  (n = 0 ∧ ks = .slice none 0 0) ∨ ∃ g cap : Nat, ks = .slice (some ⟨g, 0, none⟩) n cap ∧ 0 < n ∧ n ≤ cap ∧ cap ≤ 9223372036854775807 ∧ g < w.heap.size ∧ ∀ k, k < n → w.rangeAt g (k * sz) (cs k).toList
theorem rangeAt_block {w w' : World} {g o : Nat} {cs : List Value} (h : w.rangeAt g o cs) (e : w'.heap[g]? = w.heap[g]?) : w'.rangeAt g o cs := fun j v hj => by
  rw [World.cell?_of_block (w := w) (a := ⟨g, o + j, none⟩) e]; exact h j v hj
theorem RowN.moved {sz : Nat} {w w' : World} {ks : Value} {n : Nat} {cs : Nat → Array Value} (h : RowN sz w ks n cs) (hs : ∀ g, ks.ownBlock = some g → g < w.heap.size → w'.heap[g]? = w.heap[g]?) (hz : w.heap.size ≤ w'.heap.size) : RowN sz w' ks n cs := by
  rcases h with h | ⟨g, cap, rfl, h1, h2, h3, h4, h5⟩
  · exact .inl h
  · exact .inr ⟨g, cap, rfl, h1, h2, h3, by omega, fun k hk => rangeAt_block (h5 k hk) (hs g rfl h4)⟩
theorem RowN.below {sz : Nat} {w w' : World} {ks : Value} {n : Nat} {cs : Nat → Array Value} (h : RowN sz w ks n cs) (hb : Below w.heap.size w w') : RowN sz w' ks n cs :=
  h.moved (fun g _ hg => hb.block g hg) hb.size
/-! Inlines. -/
inductive Inl where
  | plain (x : ByteArray)
  | soft
  | span (x : ByteArray)
  | emph (x : ByteArray)
  | strong (x : ByteArray)
  | link (d x : ByteArray)
def Inl.k : Inl → Int | .plain _ => 20 | .soft => 21 | .span _ => 23 | .emph _ => 24 | .strong _ => 25 | .link _ _ => 27
def Inl.t : Inl → ByteArray | .plain x => x | .soft => ⟨#[]⟩ | .span x => x | .emph _ => ⟨#[]⟩ | .strong _ => ⟨#[]⟩ | .link d _ => d
def Inl.n : Inl → Nat | .plain _ => 0 | .soft => 0 | .span _ => 0 | .emph _ => 1 | .strong _ => 1 | .link _ _ => 1
def Inl.x : Inl → ByteArray | .plain x => x | .soft => ⟨#[]⟩ | .span x => x | .emph x => x | .strong x => x | .link _ x => x
def Inl.m : Inl → ByteArray | .emph _ => ⟨#[42]⟩ | .strong _ => ⟨#[42, 42]⟩ | _ => ⟨#[]⟩
/-- Bytes of a destination: small letters and the stroke. -/
def urlB (c : Int) : Bool := decide (c = 47 ∨ 97 ≤ c ∧ c ≤ 122)
def Url (s : ByteArray) : Prop := ∀ k, k < s.size → urlB (bt s k) = true
/-- The HTML of an inline. -/
def Inl.h : Inl → ByteArray
  | .plain x => escF x x.size
  | .soft => ⟨#[10]⟩
  | .span x => codeS x
  | .emph x => (⟨#[60, 101, 109, 62]⟩ : ByteArray) ++ escF x x.size ++ (⟨#[60, 47, 101, 109, 62]⟩ : ByteArray)
  | .strong x => (⟨#[60, 115, 116, 114, 111, 110, 103, 62]⟩ : ByteArray) ++ escF x x.size ++ (⟨#[60, 47, 115, 116, 114, 111, 110, 103, 62]⟩ : ByteArray)
  | .link d x => (⟨#[60, 97, 32, 104, 114, 101, 102, 61, 34]⟩ : ByteArray) ++ d ++ (⟨#[34]⟩ : ByteArray) ++ (⟨#[62]⟩ : ByteArray) ++ escF x x.size ++ (⟨#[60, 47, 97, 62]⟩ : ByteArray)
def Inl.ok (i : Inl) : Prop := i.t.size ≤ 100 ∧ i.x.size ≤ 100 ∧ (i.n = 0 ∨ Url i.t)
theorem Inl.h_le {i : Inl} (h : i.ok) : i.h.size ≤ 1000 := by
  obtain ⟨h1, h2, _⟩ := h
  cases i with
  | plain x => have := esc_le x x.size; simp only [Inl.h, Inl.x] at *; omega
  | soft => decide
  | span x => have := code_le x; simp only [Inl.h, Inl.x] at *; omega
  | emph x =>
    have := esc_le x x.size
    have e1 : (⟨#[60, 101, 109, 62]⟩ : ByteArray).size = 4 := rfl
    have e2 : (⟨#[60, 47, 101, 109, 62]⟩ : ByteArray).size = 5 := rfl
    simp only [Inl.h, Inl.x, ByteArray.size_append] at *; omega
  | strong x =>
    have := esc_le x x.size
    have e1 : (⟨#[60, 115, 116, 114, 111, 110, 103, 62]⟩ : ByteArray).size = 8 := rfl
    have e2 : (⟨#[60, 47, 115, 116, 114, 111, 110, 103, 62]⟩ : ByteArray).size = 9 := rfl
    simp only [Inl.h, Inl.x, ByteArray.size_append] at *; omega
  | link d x =>
    have := esc_le x x.size
    have e1 : (⟨#[60, 97, 32, 104, 114, 101, 102, 61, 34]⟩ : ByteArray).size = 9 := rfl
    have e2 : (⟨#[34]⟩ : ByteArray).size = 1 := rfl
    have e3 : (⟨#[62]⟩ : ByteArray).size = 1 := rfl
    have e4 : (⟨#[60, 47, 97, 62]⟩ : ByteArray).size = 4 := rfl
    simp only [Inl.h, Inl.x, Inl.t, ByteArray.size_append] at *; omega
/-- An inline as a node of the reference. -/
def SInl (w : World) (cs : Array Value) (i : Inl) : Prop := ∃ ks : Value, cs = sN i.k i.t ⟨#[]⟩ 0 ⟨#[]⟩ false ks 0 0 ∧ RowN 10 w ks i.n (fun _ => sN 20 i.x ⟨#[]⟩ 0 ⟨#[]⟩ false (.slice none 0 0) 0 0)
/-- An inline as a node of the thin package. -/
def IInl (w : World) (cs : Array Value) (i : Inl) : Prop := ∃ ks : Value, cs = iN i.k i.t ⟨#[]⟩ 0 ⟨#[]⟩ false ks i.m 0 false ∧ RowN 16 w ks i.n (fun _ => iN 20 i.x ⟨#[]⟩ 0 ⟨#[]⟩ false (.slice none 0 0) ⟨#[]⟩ 0 false)
theorem SInl.below {w w' : World} {cs : Array Value} {i : Inl} (h : SInl w cs i) (hb : Below w.heap.size w w') : SInl w' cs i := by
  obtain ⟨ks, h1, h2⟩ := h; exact ⟨ks, h1, h2.below hb⟩
theorem IInl.below {w w' : World} {cs : Array Value} {i : Inl} (h : IInl w cs i) (hb : Below w.heap.size w w') : IInl w' cs i := by
  obtain ⟨ks, h1, h2⟩ := h; exact ⟨ks, h1, h2.below hb⟩
/-- A row of inlines. -/
structure Inls (sz : Nat) (R : World → Array Value → Inl → Prop) (w : World) (ks : Value) (n : Nat) (is : Nat → Inl) : Prop where
  le : n ≤ 100
  ok : ∀ k, k < n → (is k).ok
  row : ∃ cs : Nat → Array Value, RowN sz w ks n cs ∧ ∀ k, k < n → R w (cs k) (is k)
theorem Inls.below {sz : Nat} {R : World → Array Value → Inl → Prop} {w w' : World} {ks : Value} {n : Nat} {is : Nat → Inl} (h : Inls sz R w ks n is) (hb : Below w.heap.size w w') (hR : ∀ cs i, R w cs i → R w' cs i) : Inls sz R w' ks n is := by
  obtain ⟨cs, h1, h2⟩ := h.row
  exact ⟨h.le, h.ok, cs, h1.below hb, fun k hk => hR _ _ (h2 k hk)⟩
/-- The HTML of a row of inlines. -/
def catI (is : Nat → Inl) (n : Nat) : ByteArray := catY (fun k => (is k).h) n
theorem catI_le {is : Nat → Inl} {n : Nat} (hn : n ≤ 100) (h : ∀ k, k < n → (is k).ok) : (catI is n).size ≤ 100000 := by
  have h1 : ∀ k, k < n → ((fun k => (is k).h) k).size ≤ 1000 := fun k hk => Inl.h_le (h k hk)
  have := cat_le n h1
  unfold catI; omega
/-! Blocks. -/
/-- The most bytes of the HTML of a block of the depth. -/
def SZ (d : Nat) : Nat := 200000 * 9 ^ d
theorem SZ_succ (d : Nat) : SZ (d + 1) = 9 * SZ d := by unfold SZ; rw [Nat.pow_succ]; omega
theorem SZ_ge (d : Nat) : 200000 ≤ SZ d := by
  unfold SZ
  have := Nat.one_le_pow d 9 (by omega)
  omega
/-- Decimal digits of a number below 100. -/
def digB (n : Nat) : ByteArray := ⟨#[UInt8.ofNat (48 + n)]⟩
def dig (n : Nat) : ByteArray := if n < 10 then digB n else digB (n / 10) ++ digB (n % 10)
theorem dig_le (n : Nat) : (dig n).size ≤ 2 := by
  unfold dig; split
  · show 1 ≤ 2; omega
  · rw [ByteArray.size_append]; show 1 + 1 ≤ 2; omega
def pHTML (z : ByteArray) : ByteArray := (⟨#[60, 112, 62]⟩ : ByteArray) ++ z ++ (⟨#[60, 47, 112, 62, 10]⟩ : ByteArray)
def hHTML (n : Nat) (z : ByteArray) : ByteArray := (⟨#[60, 104]⟩ : ByteArray) ++ dig n ++ (⟨#[62]⟩ : ByteArray) ++ z ++ ((⟨#[60, 47, 104]⟩ : ByteArray) ++ dig n ++ (⟨#[62, 10]⟩ : ByteArray))
def brHTML : ByteArray := ⟨#[60, 104, 114, 32, 47, 62, 10]⟩
def langH (t : ByteArray) : ByteArray := if t.size = 0 then ⟨#[]⟩ else (⟨#[32, 99, 108, 97, 115, 115, 61, 34, 108, 97, 110, 103, 117, 97, 103, 101, 45]⟩ : ByteArray) ++ escF t t.size ++ (⟨#[34]⟩ : ByteArray)
def cHTML (t x : ByteArray) : ByteArray := (⟨#[60, 112, 114, 101, 62, 60, 99, 111, 100, 101]⟩ : ByteArray) ++ langH t ++ (⟨#[62]⟩ : ByteArray) ++ escF x x.size ++ (⟨#[60, 47, 99, 111, 100, 101, 62, 60, 47, 112, 114, 101, 62, 10]⟩ : ByteArray)
def qHTML (z : ByteArray) : ByteArray := (⟨#[60, 98, 108, 111, 99, 107, 113, 117, 111, 116, 101, 62, 10]⟩ : ByteArray) ++ z ++ (⟨#[60, 47, 98, 108, 111, 99, 107, 113, 117, 111, 116, 101, 62, 10]⟩ : ByteArray)
/-- A block of an item, with the line feed that stands behind a text that is not the last one. -/
def itPiece (ts : Nat → Bool) (ys : Nat → ByteArray) (m k : Nat) : ByteArray := ys k ++ (if ts k = true ∧ k + 1 < m then (⟨#[10]⟩ : ByteArray) else ⟨#[]⟩)
def itHTML (ts : Nat → Bool) (ys : Nat → ByteArray) (m : Nat) : ByteArray := (⟨#[60, 108, 105, 62]⟩ : ByteArray) ++ (if 0 < m ∧ ts 0 = false then (⟨#[10]⟩ : ByteArray) else ⟨#[]⟩) ++ catY (itPiece ts ys m) m ++ (⟨#[60, 47, 108, 105, 62, 10]⟩ : ByteArray)
def startH (n : Int) : ByteArray := if n = 1 then ⟨#[]⟩ else (⟨#[32, 115, 116, 97, 114, 116, 61, 34]⟩ : ByteArray) ++ dig n.toNat ++ (⟨#[34]⟩ : ByteArray)
def lHTML (n : Int) (z : ByteArray) : ByteArray := if n < 0 then (⟨#[60, 117, 108, 62, 10]⟩ : ByteArray) ++ z ++ (⟨#[60, 47, 117, 108, 62, 10]⟩ : ByteArray) else (⟨#[60, 111, 108]⟩ : ByteArray) ++ startH n ++ (⟨#[62, 10]⟩ : ByteArray) ++ z ++ (⟨#[60, 47, 111, 108, 62, 10]⟩ : ByteArray)
/-- The number and the character of a list. -/
def markOk (n : Int) (c : ByteArray) : Prop := n = -1 ∧ (c = ⟨#[45]⟩ ∨ c = ⟨#[43]⟩) ∨ 0 ≤ n ∧ n < 30 ∧ (c = ⟨#[46]⟩ ∨ c = ⟨#[41]⟩)
/-- A code block's info string, its text. -/
def codeOk (t x : ByteArray) : Prop := t.size ≤ 10 ∧ (∀ k, k < t.size → 97 ≤ bt t k ∧ bt t k ≤ 122) ∧ 0 < x.size ∧ x.size ≤ 100 ∧ bt x (x.size - 1) = 10
/-- Blocks in a row, each read by R. -/
def Kids (sz : Nat) (R : Array Value → Option ByteArray → ByteArray → Prop) (w : World) (ks : Value) (n : Nat) (ps : Nat → Option ByteArray) (ys : Nat → ByteArray) : Prop :=
  0 < n ∧ n ≤ 4 ∧ ∃ cs : Nat → Array Value, RowN sz w ks n cs ∧ ∀ k, k < n → R (cs k) (ps k) (ys k)
theorem Kids.moved {sz : Nat} {R R' : Array Value → Option ByteArray → ByteArray → Prop} {w w' : World} {ks : Value} {n : Nat} {ps : Nat → Option ByteArray} {ys : Nat → ByteArray} (h : Kids sz R w ks n ps ys)
    (hb : Below w.heap.size w w') (hR : ∀ cs p y, R cs p y → R' cs p y) : Kids sz R' w' ks n ps ys := by
  obtain ⟨h1, h2, cs, h3, h4⟩ := h
  exact ⟨h1, h2, cs, h3.below hb, fun k hk => hR _ _ _ (h4 k hk)⟩
/-- What the HTML of an item's block is. -/
def tOf (l : Bool) (p : Option ByteArray) : Bool := !l && p.isSome
def yOf (l : Bool) (p : Option ByteArray) (y : ByteArray) : ByteArray := if l = true then y else p.getD y
/-- An item of a list as a node of the reference. -/
def SItem (R : Array Value → Option ByteArray → ByteArray → Prop) (w : World) (l : Bool) (cs : Array Value) (y : ByteArray) : Prop :=
  ∃ (ks : Value) (f o : Int) (m : Nat) (ps : Nat → Option ByteArray) (ys : Nat → ByteArray), cs = sN 4 ⟨#[]⟩ ⟨#[]⟩ 0 ⟨#[]⟩ false ks f o ∧ m ≤ 2 ∧ Kids 10 R w ks m ps ys ∧
    y = itHTML (fun k => tOf l (ps k)) (fun k => yOf l (ps k) (ys k)) m
/-- A block as a node of the reference: p: the HTML of a paragraph's inlines; y: its HTML. -/
def SB : Nat → World → Array Value → Option ByteArray → ByteArray → Prop
  | 0, _, _, _, _ => False
  | d + 1, w, cs, p, y => y.size ≤ SZ d ∧
    ((∃ (ks : Value) (f o : Int) (n : Nat) (is : Nat → Inl), cs = sN 6 ⟨#[]⟩ ⟨#[]⟩ 0 ⟨#[]⟩ false ks f o ∧ Inls 10 SInl w ks n is ∧ p = some (catI is n) ∧ y = pHTML (catI is n)) ∨
     (∃ (ks : Value) (f o : Int) (n h : Nat) (is : Nat → Inl), cs = sN 5 ⟨#[]⟩ ⟨#[]⟩ h ⟨#[]⟩ false ks f o ∧ 1 ≤ h ∧ h ≤ 6 ∧ Inls 10 SInl w ks n is ∧ p = none ∧ y = hHTML h (catI is n)) ∨
     (∃ f o : Int, cs = sN 9 ⟨#[]⟩ ⟨#[]⟩ 0 ⟨#[]⟩ false (.slice none 0 0) f o ∧ p = none ∧ y = brHTML) ∨
     (∃ (t x : ByteArray) (f o : Int), cs = sN 7 x t 0 ⟨#[]⟩ false (.slice none 0 0) f o ∧ codeOk t x ∧ p = none ∧ y = cHTML t x) ∨
     (∃ (ks : Value) (f o : Int) (n : Nat) (ps : Nat → Option ByteArray) (ys : Nat → ByteArray), cs = sN 2 ⟨#[]⟩ ⟨#[]⟩ 0 ⟨#[]⟩ false ks f o ∧ Kids 10 (SB d w) w ks n ps ys ∧ p = none ∧ y = qHTML (catY ys n)) ∨
     (∃ (ks : Value) (f o num : Int) (c : ByteArray) (l : Bool) (n : Nat) (zs : Nat → ByteArray), cs = sN 3 ⟨#[]⟩ ⟨#[]⟩ num c l ks f o ∧ markOk num c ∧
        Kids 10 (fun cs _ y => SItem (SB d w) w l cs y) w ks n (fun _ => none) zs ∧ p = none ∧ y = lHTML num (catY zs n)))
theorem SItem.moved {R R' : Array Value → Option ByteArray → ByteArray → Prop} {w w' : World} {l : Bool} {cs : Array Value} {y : ByteArray} (h : SItem R w l cs y) (hb : Below w.heap.size w w') (hR : ∀ cs p y, R cs p y → R' cs p y) : SItem R' w' l cs y := by
  obtain ⟨ks, f, o, m, ps, ys, h1, h2, h3, h4⟩ := h
  exact ⟨ks, f, o, m, ps, ys, h1, h2, h3.moved hb hR, h4⟩
theorem SB.below : ∀ {d : Nat} {w w' : World} {cs : Array Value} {p : Option ByteArray} {y : ByteArray}, SB d w cs p y → Below w.heap.size w w' → SB d w' cs p y
  | 0, _, _, _, _, _, h, _ => h.elim
  | d + 1, w, w', cs, p, y, h, hb => by
    have ih : ∀ cs p y, SB d w cs p y → SB d w' cs p y := fun cs p y h => SB.below h hb
    refine ⟨h.1, ?_⟩
    rcases h.2 with ⟨ks, f, o, n, is, h1, h2, h3⟩ | ⟨ks, f, o, n, hh, is, h1, h2, h3, h4, h5⟩ | h | h | ⟨ks, f, o, n, ps, ys, h1, h2, h3⟩ | ⟨ks, f, o, num, c, l, n, zs, h1, h2, h3, h4⟩
    · exact .inl ⟨ks, f, o, n, is, h1, h2.below hb fun _ _ h => h.below hb, h3⟩
    · exact .inr (.inl ⟨ks, f, o, n, hh, is, h1, h2, h3, h4.below hb fun _ _ h => h.below hb, h5⟩)
    · exact .inr (.inr (.inl h))
    · exact .inr (.inr (.inr (.inl h)))
    · exact .inr (.inr (.inr (.inr (.inl ⟨ks, f, o, n, ps, ys, h1, h2.moved hb ih, h3⟩))))
    · exact .inr (.inr (.inr (.inr (.inr ⟨ks, f, o, num, c, l, n, zs, h1, h2, h3.moved hb fun _ _ _ h => h.moved hb ih, h4⟩))))
theorem SB.up : ∀ {d : Nat} {w : World} {cs : Array Value} {p : Option ByteArray} {y : ByteArray}, SB d w cs p y → SB (d + 1) w cs p y
  | 0, _, _, _, _, h => h.elim
  | d + 1, w, cs, p, y, h => by
    have ih : ∀ cs p y, SB d w cs p y → SB (d + 1) w cs p y := fun cs p y h => SB.up h
    refine ⟨Nat.le_trans h.1 (by rw [SZ_succ]; omega), ?_⟩
    rcases h.2 with h | h | h | h | ⟨ks, f, o, n, ps, ys, h1, h2, h3⟩ | ⟨ks, f, o, num, c, l, n, zs, h1, h2, h3, h4⟩
    · exact .inl h
    · exact .inr (.inl h)
    · exact .inr (.inr (.inl h))
    · exact .inr (.inr (.inr (.inl h)))
    · exact .inr (.inr (.inr (.inr (.inl ⟨ks, f, o, n, ps, ys, h1, h2.moved (Below.refl _ _) ih, h3⟩))))
    · exact .inr (.inr (.inr (.inr (.inr ⟨ks, f, o, num, c, l, n, zs, h1, h2, h3.moved (Below.refl _ _) fun _ _ _ h => h.moved (Below.refl _ _) ih, h4⟩))))
end Go.Proofs.YtipniinmajoolaaGreatDoor
