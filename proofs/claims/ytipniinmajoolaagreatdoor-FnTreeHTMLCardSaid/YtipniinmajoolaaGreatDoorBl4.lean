/- A line of words and its inlines: builder.line. Conditions: the builder's block holds at most 300 readable bytes. -/
import Derived.Test.YtipniinmajoolaaGreatDoorBl3
import Derived.Deep.MidRow
namespace Go.Proofs.YtipniinmajoolaaGreatDoor
open Go.RowKit
theorem info_sn10 : (Tryz.prog.info? 27).map (·.size) = some 10 := by kernel_rfl
abbrev plainN (x : ByteArray) : Array Value := sN 20 x ⟨#[]⟩ 0 ⟨#[]⟩ false (.slice none 0 0) 0 0
theorem side_plain {B : Nat} {A : Nat → Prop} {w : World} (x : ByteArray) : Side B A (fun w2 => SInl w2 (plainN x) (.plain x)) w :=
  Side.pure (fun _ => ⟨_, rfl, .inl ⟨rfl, rfl⟩⟩)
theorem LSt.own {bb : Nat} {bv : Value} {N : Nat} {B : Nat} {X : Nat → Prop} {w : World} {lv : Value} {is : List Inl} (h : LSt bb bv N B X w lv is) : ∀ g, lv.ownBlock = some g → B ≤ g := by
  obtain ⟨⟨css, h1, _⟩, _⟩ := h
  exact fun g hg => (h1.lt g hg).1
theorem LSt.size {bb : Nat} {bv : Value} {N : Nat} {B : Nat} {X : Nat → Prop} {w : World} {lv : Value} {is : List Inl} (h : LSt bb bv N B X w lv is) : B ≤ w.heap.size := h.2.2.2
theorem LSt.own' {bb : Nat} {bv : Value} {N : Nat} {B : Nat} {X : Nat → Prop} {w : World} {lv : Value} {is : List Inl} (h : LSt bb bv N B X w lv is) : ∀ g, lv.ownBlock = some g → B ≤ g ∧ g < w.heap.size := by
  obtain ⟨⟨css, h1, _⟩, _⟩ := h
  exact fun g hg => h1.lt g hg
/-- The row of one plain node. -/
def KidK (ks : Value) (x : ByteArray) (w2 : World) : Prop := RowN 10 w2 ks 1 (fun _ => plainN x)
theorem kid_new {bb : Nat} {bv : Value} {N : Nat} {B : Nat} {X : Nat → Prop} {w : World} {lv : Value} {is : List Inl} (h : LSt bb bv N B X w lv is) (hX : ∀ g, X g → g < w.heap.size) (x : ByteArray) : Side B (av lv X) (KidK (.slice (some ⟨w.heap.size, 0, none⟩) 1 1) x) (w.alloc (.cells (plainN x) 27)) := by
  obtain ⟨⟨css, h1, _⟩, _, _, h4⟩ := h
  refine Side.block (b := w.heap.size) (fun w2 hb => .inr ⟨w.heap.size, 1, rfl, by omega, by omega, by omega, ?_, fun k hk => ?_⟩) h4 (by rw [World.size_alloc']; omega) (fun q => ?_)
  · rw [newB1] at hb
    exact (Array.getElem?_eq_some_iff.1 hb).1
  · obtain rfl : k = 0 := by omega
    rw [newB1] at hb
    intro j v hj
    rw [Nat.zero_mul, Nat.zero_add, heap_cell hb j]
    simpa using hj
  · rcases q with q | q
    · have := (h1.lt _ q).2; omega
    · have := hX _ q; omega
theorem kid_load {ks : Value} {x : ByteArray} {w : World} {g c : Nat} (h : KidK ks x w) (hk : ks = .slice (some ⟨g, 0, none⟩) 1 c) : w.rangeAt g 0 (plainN x).toList := by
  rcases h with ⟨h0, _⟩ | ⟨g', cap, e, _, _, _, _, hr⟩
  · cases h0
  · rw [hk] at e
    injection e with e1 _ _
    have e1' : g = g' := by injection e1 with e; injection e
    subst e1'
    have := hr 0 (by omega)
    rwa [Nat.zero_mul] at this
theorem IOk.mono {T T' : Nat} {is : List Inl} (h : IOk T is) (hT : T ≤ T') : IOk T' is := ⟨Nat.le_trans h.1 hT, h.2⟩
theorem putI_ne (is : List Inl) (i : Inl) : putI is i ≠ [] := by
  unfold putI; split <;> simp
/-- What is known of the list so far. -/
def Lng (n T : Nat) (is : List Inl) : Prop := is ≠ [] ∧ is.length ≤ n ∧ IOk T is
theorem Lng.put {n T : Nat} {is : List Inl} {i : Inl} (h : Lng n T is) (hi : i.k = 20 ∨ (i.x.size ≤ 100 ∧ (i.n = 0 ∨ Url i.t))) (m : Nat) (hm : T + i.t.size ≤ m) : Lng (n + 1) m (putI is i) :=
  ⟨putI_ne is i, Nat.le_trans (putI_len is i) (Nat.succ_le_succ h.2.1), (h.2.2.put hi).mono hm⟩
theorem Lng.size {n T : Nat} {is : List Inl} (h : Lng n T is) (hT : T ≤ 1000) : ∀ j ∈ is, j.t.size ≤ 1000 := fun j hj => Nat.le_trans (h.2.2.size j hj) hT
theorem url_dest {y : ByteArray} (h : Word y) : Url ((⟨#[47]⟩ : ByteArray) ++ y) := by
  intro k hk
  rw [ByteArray.size_append] at hk
  unfold urlB
  have e : (⟨#[47]⟩ : ByteArray).size = 1 := rfl
  by_cases h0 : k < 1
  · rw [bt_left _ _ (by omega)]
    obtain rfl : k = 0 := by omega
    decide
  · obtain ⟨q, rfl⟩ : ∃ q, k = (⟨#[47]⟩ : ByteArray).size + q := ⟨k - 1, by omega⟩
    rw [bt_right]
    have := h.2.2 q (by omega)
    simp; omega
/-- What line gives. -/
def LineP (bb : Nat) (bv : Value) (N : Nat) (w : World) (e : Ending) (w' : World) : Prop := ∃ (s : ByteArray) (lv : Value) (is : List Inl), e = .returned (.tuple #[.string s, lv]) ∧ s.size ≤ 40 ∧ LSt bb bv N w.heap.size (fun _ => False) w' lv is ∧ w.grownBy w' (some bb) ∧ is ≠ [] ∧ is.length ≤ 5 ∧ IOk 16 is
set_option maxHeartbeats 4000000 in
set_option maxRecDepth 100000 in
theorem line_any (bb : Nat) (bv : Value) (N : Nat) (w : World) (hB : BOk bb bv N w) :
    Calls Tryz.prog 32 #[.pointer (some ⟨bb, 0, none⟩)] w (LineP bb bv N w) := by
  have hbl := hB.lt
  have W1 := hide (fun w1 h => word_any bb bv N w1 h)
  have N3 := hide (fun w1 h => next_any bb bv N 3 w1 (by omega) (by omega) h)
  have N7 := hide (fun w1 h => next_any bb bv N 7 w1 (by omega) (by omega) h)
  have HB := hide hB
  clear hB
  go_enter Tryz.func32, Tryz.ntmps32
  go_wp2_with (first | (go_at_call 34; refine (W1.out _ HB.out).mono ?_; rintro e w1 ⟨x, rfl, hx, hB1, hg1⟩; have HX := hide hx; have HG1 := hide hg1; have HB1 := hide hB1; clear hx hg1 hB1 HB) | (go_at_call 14; refine (N3.out _ (HB1.out.alloc _)).mono ?_; rintro e w2 ⟨r, rfl, hr, hB2, hg2⟩))
  have S0 : Hid (LSt bb bv N w.heap.size (fun _ => False) w2 (.slice (some ⟨w1.heap.size, 0, none⟩) 1 1) [.plain x] ∧ IOk 4 [.plain x] ∧ w.grownBy w2 (some bb)) := by
    have hx := HX.out
    refine ⟨⟨⟨[plainN x], ?_, ?_, fun h => by cases h⟩, hB2, hbl, Nat.le_trans HG1.out.size (Nat.le_trans (by rw [World.size_alloc']; omega) hg2.size)⟩, ?_, grown_trans (grown_trans HG1.out (World.grownBy_alloc _ _ _)) hg2⟩
    · have h1 := OwnR.one w1 27 10 (plainN x) rfl (by simp [Value.oneCell'])
      exact h1.move (fun g e => hg2.block g (h1.lt g e).2 (fun e2 => by have := Option.some.inj e2; have := (h1.lt g e).1; have := HG1.out.size; omega)) HG1.out.size
    · have hs2 := hg2.size
      rw [World.size_alloc'] at hs2
      have hs1 := HG1.out.size
      exact Ent.snoc (css := []) (xs := []) Ent.nil (Side.pure fun w2 => ⟨_, rfl, .inl ⟨rfl, rfl⟩⟩)
    · refine ⟨?_, fun j hj => ?_⟩
      · simp only [List.map_cons, List.map_nil, List.sum_cons, List.sum_nil, Inl.t]; exact hx.2.1
      · have : j = .plain x := by simpa using hj
        rw [this]; exact .inl rfl
  have hxs := HX.out.2.1
  clear hB2 hg2 HB1
  go_loopw [4, 5, 16] (fun tv lv kv wr => ∃ (k : Nat) (s : ByteArray) (is : List Inl), k ≤ r ∧ tv = .string s ∧ s.size ≤ 4 + 16 * k ∧ kv = .int .i64 k ∧ Hid (LSt bb bv N w.heap.size (fun _ => False) wr lv is ∧ w.grownBy wr (some bb)) ∧ Hid (Lng (1 + 2 * k) (4 + 6 * k) is)) (fun _ _ kv _ => r - (intOf kv).toNat)
  case atStart => exact ⟨0, x, [.plain x], by omega, rfl, by omega, rfl, ⟨S0.out.1, S0.out.2.2⟩, by simp, by simp, S0.out.2.1⟩
  case round =>
    obtain ⟨k, s, is, hk, rfl, hs, rfl, SG, hI⟩ := hrel
    have S := hide SG.out.1
    have HG := hide SG.out.2
    clear SG
    clear S0 HX HG1 hxs
    by_cases hlt : k < r
    · have hltI : (k : Int) < (r : Int) := by omega
      go_wp2_with (go_at_call 34; refine (W1.out _ S.out.2.1).mono ?_; rintro e w3 ⟨y, rfl, hy, hB3, hg3⟩; have S1 := hide (S.out.step hB3 hg3); have HG3 := hide (grown_trans HG.out hg3); have HY := hide hy; clear HG hB3 hg3 hy)
      have S2 := hide (S1.out.alloc (.cells (plainN y) 27))
      have K2 := hide (kid_new S1.out (fun _ h => h.elim) y)
      have hT : 4 + 6 * k ≤ 100 := by omega
      refine (put_state S2.out (side_plain ⟨#[32]⟩  ) (Nat.le_trans hI.out.2.1 (by omega)) (hI.out.size (by omega)) (by show 1 ≤ 1000; omega)).mono ?_
      rintro e w4 ⟨v4, rfl, S4, G4, F4⟩
      have K5 := hide (K2.out.grow G4 F4)
      have HG4 := hide (grown_own (grown_trans HG3.out (World.grownBy_alloc _ _ _)) G4 S2.out.own)
      have J := hide (hI.out.put (i := .plain ⟨#[32]⟩) (.inl rfl) (4 + 6 * k + 1) (Nat.le_refl _))
      obtain ⟨is2, his2⟩ : ∃ is2, is2 = putI is (.plain ⟨#[32]⟩) := ⟨_, rfl⟩
      rw [← his2] at S4 J
      replace S4 := hide S4
      clear S S1 S2 K2 G4 F4 HG3 hI his2
      go_wp2_with fail
      refine (N7.out _ S4.out.2.1).mono ?_
      rintro e w5 ⟨q, rfl, hq, hB5, hg5⟩
      have S5 := hide (S4.out.step hB5 hg5)
      have K6 := hide (K5.out.step hg5 hbl)
      have HG5 := hide (grown_trans HG4.out hg5)
      have hys := HY.out.2.1
      clear S4 K5 HG4 hB5 hg5
      rcases (by omega : q = 0 ∨ q = 1 ∨ q = 2 ∨ q = 3 ∨ q = 4 ∨ (q = 5 ∨ q = 6)) with rfl | rfl | rfl | rfl | rfl | hq2
      · have C := hide (K6.out.mono (K' := fun w2 => SInl w2 (sN 24 ⟨#[]⟩ ⟨#[]⟩ 0 ⟨#[]⟩ false (.slice (some ⟨w3.heap.size, 0, none⟩) 1 1) 0 0) (.emph y)) (fun w2 h => ⟨_, rfl, h⟩))
        go_wp2_with (go_at_call 48; refine (put_state S5.out C.out (Nat.le_trans J.out.2.1 (by omega)) (J.out.size (by omega)) (by show 0 ≤ 1000; omega)).mono ?_; rintro e w6 ⟨v6, rfl, S6, G7, F7⟩; have JE := hide (J.out.put (i := .emph y) (.inr ⟨by show y.size ≤ 100; omega, .inr (fun k h => absurd h (by show ¬ k < 0; omega))⟩) (4 + 6 * (k + 1)) (by show 4 + 6 * k + 1 + 0 ≤ _; omega)); have HG6 := hide (grown_own HG5.out G7 S5.out.own); replace S6 := hide S6; clear G7 F7)
        go_roundw
        case rel => exact ⟨k + 1, _, _, by omega, rfl, by (have e : ∀ a b : ByteArray, (a ++ b).size = a.size + b.size := fun _ _ => ByteArray.size_append); simp only [e]; (show _ + (2 + y.size + 1) ≤ _); omega, by go_num, ⟨S6.out, HG6.out⟩, JE⟩
        case measure => simp [intOf]; omega
      · have C := hide (K6.out.mono (K' := fun w2 => SInl w2 (sN 25 ⟨#[]⟩ ⟨#[]⟩ 0 ⟨#[]⟩ false (.slice (some ⟨w3.heap.size, 0, none⟩) 1 1) 0 0) (.strong y)) (fun w2 h => ⟨_, rfl, h⟩))
        go_wp2_with (go_at_call 48; refine (put_state S5.out C.out (Nat.le_trans J.out.2.1 (by omega)) (J.out.size (by omega)) (by show 0 ≤ 1000; omega)).mono ?_; rintro e w6 ⟨v6, rfl, S6, G7, F7⟩; have JE := hide (J.out.put (i := .strong y) (.inr ⟨by show y.size ≤ 100; omega, .inr (fun k h => absurd h (by show ¬ k < 0; omega))⟩) (4 + 6 * (k + 1)) (by show 4 + 6 * k + 1 + (0) ≤ _; omega)); have HG6 := hide (grown_own HG5.out G7 S5.out.own); replace S6 := hide S6; clear G7 F7)
        go_roundw
        case rel => exact ⟨k + 1, _, _, by omega, rfl, by (have e : ∀ a b : ByteArray, (a ++ b).size = a.size + b.size := fun _ _ => ByteArray.size_append); simp only [e]; (show _ + (3 + y.size + 2) ≤ _); omega, by go_num, ⟨S6.out, HG6.out⟩, JE⟩
        case measure => simp [intOf]; omega
      · have C : Hid (Side w.heap.size (av v4 fun _ => False) (fun w2 => SInl w2 (sN 23 y ⟨#[]⟩ 0 ⟨#[]⟩ false (.slice none 0 0) 0 0) (.span y)) w5) := Side.pure (fun _ => ⟨_, rfl, .inl ⟨rfl, rfl⟩⟩)
        go_wp2_with (go_at_call 48; refine (put_state S5.out C.out (Nat.le_trans J.out.2.1 (by omega)) (J.out.size (by omega)) (by show y.size ≤ 1000; omega)).mono ?_; rintro e w6 ⟨v6, rfl, S6, G7, F7⟩; have JE := hide (J.out.put (i := .span y) (.inr ⟨by show y.size ≤ 100; omega, .inl rfl⟩) (4 + 6 * (k + 1)) (by show 4 + 6 * k + 1 + (y.size) ≤ _; omega)); have HG6 := hide (grown_own HG5.out G7 S5.out.own); replace S6 := hide S6; clear G7 F7)
        go_roundw
        case rel => exact ⟨k + 1, _, _, by omega, rfl, by (have e : ∀ a b : ByteArray, (a ++ b).size = a.size + b.size := fun _ _ => ByteArray.size_append); simp only [e]; (show _ + (2 + y.size + 1) ≤ _); omega, by go_num, ⟨S6.out, HG6.out⟩, JE⟩
        case measure => simp [intOf]; omega
      · go_wp2_with (go_at_call 34; refine (W1.out _ S5.out.2.1).mono ?_; rintro e w7 ⟨z, rfl, hz, hB7, hg7⟩; have S8 := hide (S5.out.step hB7 hg7); have K8 := hide (K6.out.step hg7 hbl); have HG8 := hide (grown_trans HG5.out hg7); have HZ := hide hz; have hzs := hz.2.1; clear hB7 hg7 hz)
        have C := hide (K8.out.mono (K' := fun w2 => SInl w2 (sN 27 ((⟨#[47]⟩ : ByteArray) ++ z) ⟨#[]⟩ 0 ⟨#[]⟩ false (.slice (some ⟨w3.heap.size, 0, none⟩) 1 1) 0 0) (.link ((⟨#[47]⟩ : ByteArray) ++ z) y)) (fun w2 h => ⟨_, rfl, h⟩))
        have hds : ((⟨#[47]⟩ : ByteArray) ++ z).size = 1 + z.size := ByteArray.size_append
        have UZ := hide (url_dest HZ.out)
        obtain ⟨D, hD⟩ : ∃ D, D = (⟨#[47]⟩ : ByteArray) ++ z := ⟨_, rfl⟩
        rw [← hD] at C hds UZ ⊢
        clear hD
        go_wp2_with (go_at_call 48; refine (put_state S8.out C.out (Nat.le_trans J.out.2.1 (by omega)) (J.out.size (by omega)) (by show D.size ≤ 1000; omega)).mono ?_; rintro e w6 ⟨v6, rfl, S6, G7, F7⟩; have JE := hide (J.out.put (i := .link D y) (.inr ⟨by show y.size ≤ 100; omega, .inr UZ.out⟩) (4 + 6 * (k + 1)) (by show 4 + 6 * k + 1 + (D.size) ≤ _; omega)); have HG6 := hide (grown_own HG8.out G7 S8.out.own); replace S6 := hide S6; clear G7 F7)
        go_roundw
        case rel => exact ⟨k + 1, _, _, by omega, rfl, by (have e : ∀ a b : ByteArray, (a ++ b).size = a.size + b.size := fun _ _ => ByteArray.size_append); simp only [e]; (show _ + (2 + y.size + 2 + D.size + 1) ≤ _); omega, by go_num, ⟨S6.out, HG6.out⟩, JE⟩
        case measure => simp [intOf]; omega
      · have hds : ((⟨#[42]⟩ : ByteArray) ++ y).size = 1 + y.size := ByteArray.size_append
        have C := hide (side_plain (B := w.heap.size) (A := av v4 fun _ => False) (w := w5) ((⟨#[42]⟩ : ByteArray) ++ y) )
        go_wp2_with (go_at_call 48; refine (put_state S5.out C.out (Nat.le_trans J.out.2.1 (by omega)) (J.out.size (by omega)) (by show ((⟨#[42]⟩ : ByteArray) ++ y).size ≤ 1000; omega)).mono ?_; rintro e w6 ⟨v6, rfl, S6, G7, F7⟩; have JE := hide (J.out.put (i := .plain ((⟨#[42]⟩ : ByteArray) ++ y)) (.inl rfl) (4 + 6 * (k + 1)) (by show 4 + 6 * k + 1 + ((⟨#[42]⟩ : ByteArray) ++ y).size ≤ _; omega)); have HG6 := hide (grown_own HG5.out G7 S5.out.own); replace S6 := hide S6; clear G7 F7)
        go_roundw
        case rel => exact ⟨k + 1, _, _, by omega, rfl, by (have e : ∀ a b : ByteArray, (a ++ b).size = a.size + b.size := fun _ _ => ByteArray.size_append); simp only [e]; (show _ + (3 + y.size) ≤ _); omega, by go_num, ⟨S6.out, HG6.out⟩, JE⟩
        case measure => simp [intOf]; omega
      · have q0 : ((q : Int) == 0) = false := by simp; omega
        have q1 : ((q : Int) == 1) = false := by simp; omega
        have q3 : ((q : Int) == 2) = false := by simp; omega
        have q4 : ((q : Int) == 3) = false := by simp; omega
        have q5 : ((q : Int) == 4) = false := by simp; omega
        have HC := hide (kid_load K6.out.now rfl)
        have C := hide (side_plain (B := w.heap.size) (A := av v4 fun _ => False) (w := w5) y )
        clear hq2
        go_wp2_with (first | (refine wpList_load_mid rfl 27 (.tmp 34) rfl w3.heap.size 0 rfl (plainN y).toList _ HC.out Tryz.underlying27 rfl info_sn10 ?_) | (go_at_call 48; refine (put_state S5.out C.out (Nat.le_trans J.out.2.1 (by omega)) (J.out.size (by omega)) (by show y.size ≤ 1000; omega)).mono ?_; rintro e w6 ⟨v6, rfl, S6, G7, F7⟩; have JE := hide (J.out.put (i := .plain y) (.inl rfl) (4 + 6 * (k + 1)) (by show 4 + 6 * k + 1 + y.size ≤ _; omega)); have HG6 := hide (grown_own HG5.out G7 S5.out.own); replace S6 := hide S6; clear G7 F7))
        go_roundw
        case rel => exact ⟨k + 1, _, _, by omega, rfl, by (have e : ∀ a b : ByteArray, (a ++ b).size = a.size + b.size := fun _ _ => ByteArray.size_append); simp only [e]; (show _ + (1 + y.size) ≤ _); omega, by go_num, ⟨S6.out, HG6.out⟩, JE⟩
        case measure => simp [intOf]; omega
    · have hltI : ¬ ((k : Int) < (r : Int)) := by omega
      go_wp2
      go_ret2
      obtain ⟨p1, p2, p3⟩ := hI.out
      exact ⟨s, _, is, rfl, by omega, S.out, HG.out, p1, by omega, p3.mono (by omega)⟩
end Go.Proofs.YtipniinmajoolaaGreatDoor
