/- laws.given, parametric in what it gives of the kids. Conditions: as each states them. -/
import Derived.Test.YtipniinmajoolaaGreatDoorIm1
import Derived.Test.YtipniinmajoolaaGreatDoorBl13
import Derived.Deep.RegionLaw
import Derived.Deep.AppendLies
import Derived.WalkMore
import Derived.Deep.Cut
import Derived.Deep.CutRange
import Derived.Deep.RegionHeld3
namespace Go.Proofs.YtipniinmajoolaaGreatDoor
open Go.RowKit
/-- The mark that given lays for a kind; the width; whether a kid is asked for as tight. -/
def markG (k : Int) : ByteArray := if k = 7 then ⟨#[96, 96, 96]⟩ else if k = 9 then ⟨#[42, 42, 42]⟩ else if k = 24 then ⟨#[42]⟩ else if k = 25 then ⟨#[42, 42]⟩ else ⟨#[]⟩
def widthG (k : Int) : Int := if k = 4 then 4 else 0
def kidG (k : Int) (l tight : Bool) : Bool := (k == 3 && !l) || (tight && k == 4)
def tightG (k : Int) (tight : Bool) : Bool := tight && k == 6
abbrev zeroI : Array Value := iN 0 ⟨#[]⟩ ⟨#[]⟩ 0 ⟨#[]⟩ false (.slice none 0 0) ⟨#[]⟩ 0 false
theorem info_in16 : (Tryz.prog.info? 34).map (·.size) = some 16 := by kernel_rfl
/-- What given gives of a node. -/
def GivenP {ι : Type} (R : World → Array Value → ι → Prop) (x : ι) (w : World) (e : Ending) (w' : World) : Prop :=
  ∃ cs : Array Value, e = .returned (.agg cs) ∧ cs.size = 16 ∧ cs.all (·.oneCell') = true ∧ Side w.heap.size (fun _ => False) (fun w2 => R w2 cs x) w' ∧ Below w.heap.size w w'
/-- laws.given ahead of its loop: its parameter, its result's cell, the node under way. -/
structure GvS (w : World) (pc oc : Array Value) (wr : World) : Prop where
  B : Below w.heap.size w wr
  z : wr.heap.size = w.heap.size + 3
  p : ObjIs wr w.heap.size pc 27
  r : ObjIs wr (w.heap.size + 1) zeroI 34
  o : ObjIs wr (w.heap.size + 2) oc 34
theorem GvS.cell {w : World} {pc oc : Array Value} {wr : World} (h : GvS w pc oc wr) (j : Nat) : wr.cell? ⟨w.heap.size, j, none⟩ = pc[j]? ∧ wr.cell? ⟨w.heap.size + 2, j, none⟩ = oc[j]? ∧ wr.frozen? ⟨w.heap.size + 2, j, none⟩ = false :=
  ⟨heap_cell h.p j, heap_cell h.o j, heap_free h.o j⟩
theorem GvS.set {w : World} {pc oc oc' : Array Value} {wr : World} (h : GvS w pc oc wr) (j : Nat) (v : Value) (e : oc.setIfInBounds j v = oc') : GvS w pc oc' (wr.setCell ⟨w.heap.size + 2, j, none⟩ v) := by
  have hz : (wr.setCell ⟨w.heap.size + 2, j, none⟩ v).heap.size = wr.heap.size := by simp [World.setCell]
  have hg := grown_setCell wr (w.heap.size + 2) j v
  refine ⟨h.B.setCell (p := ⟨w.heap.size + 2, j, none⟩) (by show w.heap.size ≤ w.heap.size + 2; omega) v, hz.trans h.z, h.p.keep hg (fun e => by have := Option.some.inj e; omega), h.r.keep hg (fun e => by have := Option.some.inj e; omega), ?_⟩
  have := heap_setCell_same wr (w.heap.size + 2) j _ _ v h.o
  rw [e] at this
  exact this
/-- laws.given in its loop: the row of kids under way. -/
structure GvL {ι : Type} (R : World → Array Value → ι → Prop) (w : World) (pc : Array Value) (oc : Value → Array Value) (wr : World) (nv : Value) (xs : List ι) : Prop where
  B : Below w.heap.size w wr
  z : w.heap.size + 3 ≤ wr.heap.size
  p : ObjIs wr w.heap.size pc 27
  r : ObjIs wr (w.heap.size + 1) zeroI 34
  o : ObjIs wr (w.heap.size + 2) (oc nv) 34
  K : ∃ css, OwnR wr (w.heap.size + 3) 34 16 nv css ∧ Ent R (w.heap.size + 3) (av nv (fun _ => False)) css xs wr ∧ (css = [] → nv = .slice none 0 0)
theorem GvS.loop {ι : Type} {R : World → Array Value → ι → Prop} {w : World} {pc : Array Value} {oc : Value → Array Value} {wr : World} (h : GvS w pc (oc (.slice none 0 0)) wr) : GvL R w pc oc wr (.slice none 0 0) [] :=
  ⟨h.B, by have := h.z; omega, h.p, h.r, h.o, [], OwnR.nil _ _ _ _, Ent.nil, fun _ => rfl⟩
theorem GvL.old {ι : Type} {R : World → Array Value → ι → Prop} {w : World} {pc : Array Value} {oc : Value → Array Value} {wr w' : World} {nv : Value} {xs : List ι} (h : GvL R w pc oc wr nv xs) (hb : Below wr.heap.size wr w') : GvL R w pc oc w' nv xs := by
  have hz := h.z
  obtain ⟨css, h1, h2, h3⟩ := h.K
  exact ⟨h.B.trans (hb.mono h.B.size), Nat.le_trans h.z hb.size, (hb.block _ (by omega)).trans h.p, (hb.block _ (by omega)).trans h.r, (hb.block _ (by omega)).trans h.o,
    css, h1.move (fun g e => hb.block g (h1.lt g e).2) (Nat.le_refl _), h2.keep hb.size (fun j _ b _ => hb.block j b) (fun _ q => .inl q), h3⟩
/-- A kid is appended; the row is stored. -/
theorem GvL.snoc {ι : Type} {R : World → Array Value → ι → Prop} {w : World} {pc : Array Value} {oc : Value → Array Value} {wr w2 : World} {nv : Value} {xs : List ι} {css : List (Array Value)} {g cap n : Nat} {c : Array Value} {x : ι} (h : GvL R w pc oc wr nv xs)
    (h3 : OwnR wr (w.heap.size + 3) 34 16 nv css) (h4 : Ent R (w.heap.size + 3) (av nv (fun _ => False)) css xs wr) (hn : css.length = n) (hc : Side (w.heap.size + 3) (av nv (fun _ => False)) (fun w2 => R w2 c x) wr) (hs : c.size = 16) (h1 : c.all (·.oneCell') = true)
    (hown : w2.ownsRow (w.heap.size + 3) 34 16 (.slice (some ⟨g, 0, none⟩) (n + 1) cap) (n + 1) (flat css ++ c.toList)) (hg : wr.grownBy w2 nv.ownBlock) (hat : nv.ownBlock = some g ∨ wr.heap.size ≤ g)
    (hset : (oc nv).setIfInBounds 7 (.slice (some ⟨g, 0, none⟩) (n + 1) cap) = oc (.slice (some ⟨g, 0, none⟩) (n + 1) cap)) :
    GvL R w pc oc (w2.setCell ⟨w.heap.size + 2, 7, none⟩ (.slice (some ⟨g, 0, none⟩) (n + 1) cap)) (.slice (some ⟨g, 0, none⟩) (n + 1) cap) (xs ++ [x]) := by
  have hz := h.z
  have hno : ∀ j, j < w.heap.size + 3 → some j ≠ nv.ownBlock := fun j hj e => by have := (h3.lt j e.symm).1; omega
  have hB2 : Below w.heap.size w w2 := h.B.grown hg h.B.size (fun k hk => by have := (h3.lt k hk).1; omega)
  have hz2 : w.heap.size + 3 ≤ w2.heap.size := Nat.le_trans hz hg.size
  have hsz : (w2.setCell ⟨w.heap.size + 2, 7, none⟩ (.slice (some ⟨g, 0, none⟩) (n + 1) cap)).heap.size = w2.heap.size := by simp [World.setCell]
  have hgc := grown_setCell w2 (w.heap.size + 2) 7 (.slice (some ⟨g, 0, none⟩) (n + 1) cap)
  have hf : ∀ g', (Value.slice (some ⟨g, 0, none⟩) (n + 1) cap).ownBlock = some g' → nv.ownBlock = some g' ∨ wr.heap.size ≤ g' := fun g' e => by
    have e2 : g = g' := by simpa [Value.ownBlock] using e
    subst e2; exact hat
  have ho2 : ObjIs w2 (w.heap.size + 2) (oc nv) 34 := (hg.block _ (by omega) (hno _ (by omega))).trans h.o
  have hO : OwnR w2 (w.heap.size + 3) 34 16 (.slice (some ⟨g, 0, none⟩) (n + 1) cap) (css ++ [c]) := OwnR.snoc hown (by omega) h3.2.1 h3.2.2 hs h1
  have hE : Ent R (w.heap.size + 3) (av (.slice (some ⟨g, 0, none⟩) (n + 1) cap) (fun _ => False)) (css ++ [c]) (xs ++ [x]) w2 := (h4.snoc hc).keep hg.size (fun j _ b c => hg.block j b (fun e => c (.inl e.symm))) (av_next (X := fun _ => False) hf)
  refine ⟨hB2.setCell (p := ⟨w.heap.size + 2, 7, none⟩) (by show w.heap.size ≤ w.heap.size + 2; omega) _, by rw [hsz]; exact hz2, ?_, ?_, ?_, css ++ [c], hO.move (fun g' e => hgc.block g' (hO.lt g' e).2 (fun e2 => by have := (hO.lt g' e).1; have := Option.some.inj e2; omega)) (Nat.le_refl _), hE.keep (Nat.le_of_eq hsz.symm) (fun j a b _ => hgc.block j b (fun e2 => by have := Option.some.inj e2; omega)) (fun _ q => .inl q), fun e => by simp at e⟩
  · exact (hgc.block _ (by omega) (fun e => by have := Option.some.inj e; omega)).trans ((hg.block _ (by omega) (hno _ (by omega))).trans h.p)
  · exact (hgc.block _ (by omega) (fun e => by have := Option.some.inj e; omega)).trans ((hg.block _ (by omega) (hno _ (by omega))).trans h.r)
  · have := heap_setCell_same w2 (w.heap.size + 2) 7 _ _ (.slice (some ⟨g, 0, none⟩) (n + 1) cap) ho2
    rw [hset] at this
    exact this
theorem Side.away {B : Nat} {A A' : Nat → Prop} {K : World → Prop} {w : World} (h : Side B A K w) (ho : ∀ g, A' g → A g ∨ g < B ∨ w.heap.size ≤ g) : Side B A' K w := by
  obtain ⟨F, h1, h2⟩ := h
  refine ⟨F, h1, fun j hj => ?_⟩
  obtain ⟨a, b, c⟩ := h2 j hj
  refine ⟨a, b, fun q => ?_⟩
  rcases ho j q with q | q | q
  · exact c q
  · omega
  · omega
theorem sixteen_of_size {cs : Array Value} (h : cs.size = 16) : ∃ b0 b1 b2 b3 b4 b5 b6 b7 b8 b9 b10 b11 b12 b13 b14 b15 : Value, cs = #[b0, b1, b2, b3, b4, b5, b6, b7, b8, b9, b10, b11, b12, b13, b14, b15] := by
  obtain ⟨l⟩ := cs
  match l, h with
  | [b0, b1, b2, b3, b4, b5, b6, b7, b8, b9, b10, b11, b12, b13, b14, b15], _ => exact ⟨b0, b1, b2, b3, b4, b5, b6, b7, b8, b9, b10, b11, b12, b13, b14, b15, rfl⟩
theorem info_inz : (Tryz.prog.info? 34).map (fun i => (i.zero, i.size, i.bytes)) = some (some (.agg zeroI), 16, 192) := by kernel_rfl
theorem snoc_get {ι : Type} {xl : List ι} {xs : Nat → ι} {j : Nat} (h : xl.length = j ∧ ∀ q, q < j → xl[q]? = some (xs q)) : (xl ++ [xs j]).length = j + 1 ∧ ∀ q, q < j + 1 → (xl ++ [xs j])[q]? = some (xs q) := by
  obtain ⟨h1, h2⟩ := h
  refine ⟨by rw [List.length_append, h1]; rfl, fun q hq => ?_⟩
  by_cases e : q < j
  · rw [List.getElem?_append_left (by omega)]; exact h2 q e
  · obtain rfl : q = j := by omega
    rw [List.getElem?_append_right (by omega), h1, Nat.sub_self]; rfl
/-- The row, once all kids are in it. -/
theorem GvL.done {ι : Type} {R : World → Array Value → ι → Prop} {w : World} {pc : Array Value} {oc : Value → Array Value} {wr W : World} {nv : Value} {xl : List ι} {n : Nat} {xs : Nat → ι} (h : GvL R w pc oc wr nv xl) (hX : xl.length = n ∧ ∀ q, q < n → xl[q]? = some (xs q)) (hg : wr.grownBy W (some (w.heap.size + 1))) :
    Side w.heap.size (fun _ => False) (fun w2 => ∃ cs : Nat → Array Value, RowN 16 w2 nv n cs ∧ ∀ q, q < n → R w2 (cs q) (xs q)) W ∧ Below w.heap.size w W := by
  obtain ⟨css, k1, k2, k3⟩ := h.K
  refine ⟨?_, h.B.grown hg h.B.size (fun k hk => by have := Option.some.inj hk; omega)⟩
  have hlen : css.length = n := k2.1.trans hX.1
  by_cases h0 : 0 < css.length
  · have q := row_done (X := fun _ => False) k1 k2 h0 (fun _ _ h => h)
    refine ((q.keep (A' := fun _ => False) hg.size (fun j a b _ => hg.block j b (fun e => by have := Option.some.inj e; omega)) (fun _ q => .inl q)).base (by omega)).mono fun w2 hw => ?_
    obtain ⟨q1, q2⟩ := hw
    rw [hlen] at q1 q2
    refine ⟨_, q1, fun i hi => ?_⟩
    obtain ⟨x, hx, hR⟩ := q2 i hi
    rw [hX.2 i hi] at hx
    obtain rfl := Option.some.inj hx
    exact hR
  · have hc : css = [] := List.length_eq_zero_iff.1 (by omega)
    have hn : n = 0 := by omega
    exact Side.pure fun w2 => ⟨fun _ => #[], .inl ⟨hn, k3 hc⟩, fun q hq => by omega⟩
set_option linter.unusedSimpArgs false in
set_option maxRecDepth 100000 in
set_option maxHeartbeats 2000000 in
theorem given_of {ι : Type} (R : World → Array Value → ι → Prop) (w : World) (k : Int) (t ti : ByteArray) (num : Int) (c : ByteArray) (l : Bool) (ks : Value) (f o : Int) (tight : Bool) (n : Nat) (kcs : Nat → Array Value) (xs : Nat → ι)
    (hnl : n ≤ 1000) (hr : RowN 10 w ks n kcs) (h10 : ∀ j, j < n → (kcs j).size = 10 ∧ (kcs j).all (·.oneCell') = true)
    (hC : ∀ j, j < n → ∀ wx, Below w.heap.size w wx → Calls Tryz.prog 7 #[.agg (kcs j), .bool (kidG k l tight)] wx (GivenP R (xs j) wx)) :
    Calls Tryz.prog 7 #[.agg (sN k t ti num c l ks f o), .bool tight] w fun e w' => ∃ ks' : Value, e = .returned (.agg (iN k t ti num c l ks' (markG k) (widthG k) (tightG k tight))) ∧
      Side w.heap.size (fun _ => False) (fun w2 => ∃ cs : Nat → Array Value, RowN 16 w2 ks' n cs ∧ ∀ j, j < n → R w2 (cs j) (xs j)) w' ∧ Below w.heap.size w w' := by
  have hn4 : ∃ (ao : Option Addr) (kc : Nat), ks = .slice ao n kc := by
    rcases hr with ⟨rfl, rfl⟩ | ⟨g, cap, rfl, _⟩
    · exact ⟨_, _, rfl⟩
    · exact ⟨_, _, rfl⟩
  obtain ⟨ao, kc, rfl⟩ := hn4
  have HNL := hide hnl
  obtain ⟨i0, hi0, hz0, hz1, hz2⟩ := info_parts info_inz
  have HR := hide hr
  have H10 := hide h10
  have HC := hide hC
  clear hr h10 hC hnl
  obtain ⟨T, hT⟩ : ∃ T, T = tightG k tight := ⟨_, rfl⟩
  have HT := hide hT
  have S0 : Hid (GvS w (sN k t ti num c l (.slice ao n kc) f o) (iN k t ti num c l (.slice none 0 0) ⟨#[]⟩ 0 T) (((w.alloc (.cells (sN k t ti num c l (.slice ao n kc) f o) 27)).alloc (.cells zeroI 34)).alloc (.cells (iN k t ti num c l (.slice none 0 0) ⟨#[]⟩ 0 T) 34))) := hide
    ⟨(((Below.refl _ _).alloc (Nat.le_refl _) _).alloc (by rw [World.size_alloc']; omega) _).alloc (by rw [World.size_alloc', World.size_alloc']; omega) _, by rw [World.size_alloc', World.size_alloc', World.size_alloc'], (Below.heap_alloc _ _ _ (by rw [World.size_alloc', World.size_alloc']; omega)).trans ((Below.heap_alloc _ _ _ (by rw [World.size_alloc']; omega)).trans (newB1 _ _)), (Below.heap_alloc _ _ _ (by rw [World.size_alloc', World.size_alloc']; omega)).trans (newB2 _ _ _), newB3 _ _ _ _⟩
  rw [← hT]
  clear hT
  go_enter Tryz.func7, Tryz.ntmps7
  go_upto_region 1 with fail
  go_cut [5] from 8 to 26 (fun s wx => s = .pointer (some ⟨w.heap.size + 2, 0, none⟩) ∧ GvS w (sN k t ti num c l (.slice ao n kc) f o) (iN k t ti num c l (.slice none 0 0) ⟨#[]⟩ 0 T) wx)
  case first =>
    cases tight with
    | true =>
      obtain rfl : T = (k == 6) := HT.out.trans (by simp [tightG])
      go_wp2
      go_meet
      case rel => exact ⟨rfl, S0.out⟩
    | false =>
      obtain rfl : T = false := HT.out.trans (by simp [tightG])
      go_wp2
      go_meet
      case rel => exact ⟨rfl, S0.out⟩
  case rest =>
  obtain ⟨rfl, S1⟩ := hcut
  have S1 := hide S1
  clear S0
  have c29 := (S1.out.cell 0).1.trans (show _ = some (.int .i64 k) from rfl)
  go_upto_if 29 with fail
  go_cut [] from 27 to 30 (fun wx => GvS w (sN k t ti num c l (.slice ao n kc) f o) (iN k t ti num c l (.slice none 0 0) (if k = 7 then (⟨#[96, 96, 96]⟩ : ByteArray) else ⟨#[]⟩) 0 T) wx)
  case first =>
    by_cases hk : k = 7
    · have hkb : (k == 7) = true := by rw [hk]; rfl
      have f10 := (S1.out.cell 10).2.2
      have g10 := (S1.out.cell 10).2.1.trans (show _ = some _ from rfl)
      have G := hide (S1.out.set 10 (.string ⟨#[96, 96, 96]⟩) rfl)
      go_wp2
      go_meet
      case rel => rw [if_pos hk]; exact G.out
    · have hkb : (k == 7) = false := by rw [beq_eq_false_iff_ne]; exact hk
      go_wp2
      go_meet
      case rel => rw [if_neg hk]; exact S1.out
  case rest =>
  have S2 := hide hcut
  clear S1 hcut c29
  have c33 := (S2.out.cell 0).1.trans (show _ = some (.int .i64 k) from rfl)
  go_upto_if 33 with fail
  go_cut [] from 31 to 34 (fun wx => GvS w (sN k t ti num c l (.slice ao n kc) f o) (iN k t ti num c l (.slice none 0 0) (if k = 9 then (⟨#[42, 42, 42]⟩ : ByteArray) else (if k = 7 then (⟨#[96, 96, 96]⟩ : ByteArray) else ⟨#[]⟩)) 0 T) wx)
  case first =>
    by_cases hk : k = 9
    · have hkb : (k == 9) = true := by rw [hk]; rfl
      have f10 := (S2.out.cell 10).2.2
      have g10 := (S2.out.cell 10).2.1.trans (show _ = some _ from rfl)
      have G := hide (S2.out.set 10 (.string ⟨#[42, 42, 42]⟩) rfl)
      go_wp2
      go_meet
      case rel => rw [if_pos hk]; exact G.out
    · have hkb : (k == 9) = false := by rw [beq_eq_false_iff_ne]; exact hk
      go_wp2
      go_meet
      case rel => rw [if_neg hk]; exact S2.out
  case rest =>
  have S3 := hide hcut
  clear S2 hcut c33
  have c37 := (S3.out.cell 0).1.trans (show _ = some (.int .i64 k) from rfl)
  go_upto_if 37 with fail
  go_cut [] from 35 to 38 (fun wx => GvS w (sN k t ti num c l (.slice ao n kc) f o) (iN k t ti num c l (.slice none 0 0) (if k = 24 then (⟨#[42]⟩ : ByteArray) else (if k = 9 then (⟨#[42, 42, 42]⟩ : ByteArray) else (if k = 7 then (⟨#[96, 96, 96]⟩ : ByteArray) else ⟨#[]⟩))) 0 T) wx)
  case first =>
    by_cases hk : k = 24
    · have hkb : (k == 24) = true := by rw [hk]; rfl
      have f10 := (S3.out.cell 10).2.2
      have g10 := (S3.out.cell 10).2.1.trans (show _ = some _ from rfl)
      have G := hide (S3.out.set 10 (.string ⟨#[42]⟩) rfl)
      go_wp2
      go_meet
      case rel => rw [if_pos hk]; exact G.out
    · have hkb : (k == 24) = false := by rw [beq_eq_false_iff_ne]; exact hk
      go_wp2
      go_meet
      case rel => rw [if_neg hk]; exact S3.out
  case rest =>
  have S4 := hide hcut
  clear S3 hcut c37
  have c41 := (S4.out.cell 0).1.trans (show _ = some (.int .i64 k) from rfl)
  go_upto_if 41 with fail
  go_cut [] from 39 to 42 (fun wx => GvS w (sN k t ti num c l (.slice ao n kc) f o) (iN k t ti num c l (.slice none 0 0) (if k = 25 then (⟨#[42, 42]⟩ : ByteArray) else (if k = 24 then (⟨#[42]⟩ : ByteArray) else (if k = 9 then (⟨#[42, 42, 42]⟩ : ByteArray) else (if k = 7 then (⟨#[96, 96, 96]⟩ : ByteArray) else ⟨#[]⟩)))) 0 T) wx)
  case first =>
    by_cases hk : k = 25
    · have hkb : (k == 25) = true := by rw [hk]; rfl
      have f10 := (S4.out.cell 10).2.2
      have g10 := (S4.out.cell 10).2.1.trans (show _ = some _ from rfl)
      have G := hide (S4.out.set 10 (.string ⟨#[42, 42]⟩) rfl)
      go_wp2
      go_meet
      case rel => rw [if_pos hk]; exact G.out
    · have hkb : (k == 25) = false := by rw [beq_eq_false_iff_ne]; exact hk
      go_wp2
      go_meet
      case rel => rw [if_neg hk]; exact S4.out
  case rest =>
  have S5 := hide hcut
  clear S4 hcut c41
  have c45 := (S5.out.cell 0).1.trans (show _ = some (.int .i64 k) from rfl)
  go_upto_if 45 with fail
  go_cut [] from 43 to 46 (fun wx => GvS w (sN k t ti num c l (.slice ao n kc) f o) (iN k t ti num c l (.slice none 0 0) (if k = 25 then (⟨#[42, 42]⟩ : ByteArray) else (if k = 24 then (⟨#[42]⟩ : ByteArray) else (if k = 9 then (⟨#[42, 42, 42]⟩ : ByteArray) else (if k = 7 then (⟨#[96, 96, 96]⟩ : ByteArray) else ⟨#[]⟩)))) (if k = 4 then 4 else 0) T) wx)
  case first =>
    by_cases hk : k = 4
    · have hkb : (k == 4) = true := by rw [hk]; rfl
      have f10 := (S5.out.cell 11).2.2
      have g10 := (S5.out.cell 11).2.1.trans (show _ = some _ from rfl)
      have G := hide (S5.out.set 11 (.int .i64 4) rfl)
      go_wp2
      go_meet
      case rel => rw [if_pos hk]; exact G.out
    · have hkb : (k == 4) = false := by rw [beq_eq_false_iff_ne]; exact hk
      go_wp2
      go_meet
      case rel => rw [if_neg hk]; exact S5.out
  case rest =>
  have S6 := hide hcut
  clear S5 hcut c45
  have hmk : (if k = 25 then (⟨#[42, 42]⟩ : ByteArray) else (if k = 24 then (⟨#[42]⟩ : ByteArray) else (if k = 9 then (⟨#[42, 42, 42]⟩ : ByteArray) else (if k = 7 then (⟨#[96, 96, 96]⟩ : ByteArray) else ⟨#[]⟩)))) = markG k := by
    unfold markG
    by_cases h7 : k = 7
    · subst h7; rfl
    by_cases h9 : k = 9
    · subst h9; rfl
    by_cases h24 : k = 24
    · subst h24; rfl
    by_cases h25 : k = 25
    · subst h25; rfl
    rw [if_neg h25, if_neg h24, if_neg h9, if_neg h7, if_neg h7, if_neg h9, if_neg h24, if_neg h25]
  have hs6 := S6.out
  rw [hmk] at hs6
  have hs7 : GvS w (sN k t ti num c l (.slice ao n kc) f o) (iN k t ti num c l (.slice none 0 0) (markG k) (widthG k) T) wc := hs6
  have S7 := hide hs7
  clear S6 hs6 hs7 hmk
  have c7 := (S7.out.cell 7).1.trans (show _ = some (.slice ao n kc) from rfl)
  have L0 : Hid (GvL R w (sN k t ti num c l (.slice ao n kc) f o) (fun nv => iN k t ti num c l nv (markG k) (widthG k) T) wc (.slice none 0 0) []) := hide (GvS.loop S7.out)
  go_wp2_with fail
  go_loopw [50] (fun kv wr => ∃ (j : Nat) (nv : Value) (xl : List ι), j ≤ n ∧ kv = .int .i64 j ∧ Hid (xl.length = j ∧ ∀ q, q < j → xl[q]? = some (xs q)) ∧ Hid (GvL R w (sN k t ti num c l (.slice ao n kc) f o) (fun nv => iN k t ti num c l nv (markG k) (widthG k) T) wr nv xl)) (fun kv _ => n - (intOf kv).toNat)
  case atStart => exact ⟨0, _, [], by omega, rfl, hide ⟨rfl, fun q h => absurd h (Nat.not_lt_zero q)⟩, L0⟩
  case round =>
    obtain ⟨j, nv, xl, hj, rfl, HX, HL⟩ := hrel
    clear S7 L0 c7
    by_cases hl : j < n
    · have hlI : (j : Int) < (n : Int) := by omega
      have hz3 := HL.out.z
      have c7 : wr.cell? ⟨w.heap.size + 2, 7, none⟩ = some nv := (heap_cell HL.out.o 7).trans rfl
      have hr0 := HR.out
      have hrw : ∃ r cap, ao = some ⟨r, 0, none⟩ ∧ kc = cap ∧ r < w.heap.size ∧ w.rangeAt r (j * 10) (kcs j).toList := by
        rcases hr0 with ⟨h0, _⟩ | ⟨r, cap, e, _, _, _, hlt, hrr⟩
        · omega
        · injection e with e1 _ e3
          exact ⟨r, cap, e1, e3, hlt, hrr j hl⟩
      obtain ⟨r, cap, rfl, rfl, hrl, hcl⟩ := hrw
      have hcj : Hid (wr.rangeAt r (j * 10) (kcs j).toList) := hide (fun q v hq => by
        rw [HL.out.B.cell (p := ⟨r, j * 10 + q, none⟩) hrl]; exact hcl q v hq)
      obtain ⟨hz10, hone10⟩ := H10.out j hl
      have HSZ := hide (show (Tryz.prog.info? 27).map (·.size) = some (kcs j).size by rw [hz10]; exact info_sn10)
      have HSZL := hide (show (Tryz.prog.info? 27).map (·.size) = some (kcs j).toList.length by rw [Array.length_toList]; exact HSZ.out)
      have H16 := hide hz10
      have H1 := hide hone10
      clear hr0 hcl hz10 hone10
      go_upto_region 15 with (first | ((with_reducible refine wpList_load_mid ?_ 27 (.tmp 52) ?_ r (j * 10) ?_ (kcs j).toList _ hcj.out Tryz.underlying27 ?_ HSZL.out ?_); exact rfl; exact rfl; (simp [go_sem]); exact rfl) | ((with_reducible refine wpList_store_new ?_ 27 (.tmp 7) (.tmp 53) ?_ wr _ (kcs j) ?_ ?_ HSZ.out ?_ H1.out ?_); exact rfl; exact rfl; (simp [go_sem]); (simp [go_sem]); (rw [H16.out]; rfl)))
      -- the region of the kid
      obtain ⟨a0, a1, a2, a3, a4, a5, a6, a7, a8, a9, hkc⟩ := ten_of_size H16.out
      have HS0 : Hid ((wr.alloc (.cells (kcs j) 27)).drew.heap.size = wr.heap.size + 1) := hide (World.size_alloc' _ _)
      have hB0 : Hid (Below wr.heap.size wr (wr.alloc (.cells (kcs j) 27)).drew) := hide (((Below.refl _ _).alloc (Nat.le_refl _) _).drew)
      have CC := hide (HC.out j hl _ (HL.out.B.trans (hB0.out.mono HL.out.B.size)))
      have cells_of : ∀ W : World, Below (wr.heap.size + 1) (wr.alloc (.cells (kcs j) 27)).drew W → ((W.cell? ⟨w.heap.size, 0, none⟩ = some (.int .i64 k) ∧ W.cell? ⟨w.heap.size, 5, none⟩ = some (.bool l)) ∧ ∀ q, W.cell? ⟨wr.heap.size, q, none⟩ = (kcs j)[q]?) ∧ W.cell? ⟨w.heap.size + 2, 7, none⟩ = some nv ∧ W.frozen? ⟨w.heap.size + 2, 7, none⟩ = false := fun W hb => by
        have e0 : ObjIs W w.heap.size (sN k t ti num c l (.slice (some ⟨r, 0, none⟩) n kc) f o) 27 := (hb.block _ (by omega)).trans ((hB0.out.block _ (by omega)).trans HL.out.p)
        have e1 : ObjIs W (w.heap.size + 2) (iN k t ti num c l nv (markG k) (widthG k) T) 34 := (hb.block _ (by omega)).trans ((hB0.out.block _ (by omega)).trans HL.out.o)
        have e2 : ObjIs W wr.heap.size (kcs j) 27 := (hb.block _ (by omega)).trans (newB1 wr _)
        exact ⟨⟨⟨heap_cell e0 0, heap_cell e0 5⟩, fun q => heap_cell e2 q⟩, heap_cell e1 7, heap_free e1 7⟩
      have hXj := HX.out.1
      have AFT : Hid (∀ (cs3 : Array Value) (w3 : World), cs3.all (·.oneCell') = true → Side (wr.alloc (.cells (kcs j) 27)).drew.heap.size (fun _ => False) (fun w2 => R w2 cs3 (xs j)) w3 → Below (wr.alloc (.cells (kcs j) 27)).drew.heap.size (wr.alloc (.cells (kcs j) 27)).drew w3 → cs3.size = 16 →
          ((w3.cell? ⟨w.heap.size, 0, none⟩ = some (.int .i64 k) ∧ w3.cell? ⟨w.heap.size, 5, none⟩ = some (.bool l)) ∧ ∀ q, w3.cell? ⟨wr.heap.size, q, none⟩ = (kcs j)[q]?) ∧
          (∀ ob, (((w3.alloc ob).cell? ⟨w.heap.size, 0, none⟩ = some (.int .i64 k) ∧ (w3.alloc ob).cell? ⟨w.heap.size, 5, none⟩ = some (.bool l)) ∧ ∀ q, (w3.alloc ob).cell? ⟨wr.heap.size, q, none⟩ = (kcs j)[q]?)) ∧
          w3.cell? ⟨w.heap.size + 2, 7, none⟩ = some nv ∧ (∀ ob, (w3.alloc ob).cell? ⟨w.heap.size + 2, 7, none⟩ = some nv) ∧ w.heap.size + 3 ≤ w3.heap.size ∧
          ∃ css : List (Array Value), (w3.alloc (.cells cs3 34)).ownsRow (w.heap.size + 3) 34 16 nv j (flat css) ∧
            ∀ (g5 cap5 : Nat) (w5 : World), w5.ownsRow (w.heap.size + 3) 34 16 (.slice (some ⟨g5, 0, none⟩) (j + 1) cap5) (j + 1) (flat css ++ cs3.toList) → (w3.alloc (.cells cs3 34)).grownBy w5 nv.ownBlock → (nv.ownBlock = some g5 ∨ g5 = (w3.alloc (.cells cs3 34)).heap.size) →
              ((w5.cell? ⟨w.heap.size, 0, none⟩ = some (.int .i64 k) ∧ w5.cell? ⟨w.heap.size, 5, none⟩ = some (.bool l)) ∧ ∀ q, w5.cell? ⟨wr.heap.size, q, none⟩ = (kcs j)[q]?) ∧
              (∀ v, (((w5.setCell ⟨w.heap.size + 2, 7, none⟩ v).cell? ⟨w.heap.size, 0, none⟩ = some (.int .i64 k) ∧ (w5.setCell ⟨w.heap.size + 2, 7, none⟩ v).cell? ⟨w.heap.size, 5, none⟩ = some (.bool l)) ∧ ∀ q, (w5.setCell ⟨w.heap.size + 2, 7, none⟩ v).cell? ⟨wr.heap.size, q, none⟩ = (kcs j)[q]?)) ∧
              w5.cell? ⟨w.heap.size + 2, 7, none⟩ = some nv ∧ w5.frozen? ⟨w.heap.size + 2, 7, none⟩ = false ∧
              GvL R w (sN k t ti num c l (.slice (some ⟨r, 0, none⟩) n kc) f o) (fun nv => iN k t ti num c l nv (markG k) (widthG k) T) (w5.setCell ⟨w.heap.size + 2, 7, none⟩ (.slice (some ⟨g5, 0, none⟩) (j + 1) cap5)) (.slice (some ⟨g5, 0, none⟩) (j + 1) cap5) (xl ++ [xs j])) := hide (fun cs3 w3 ho3 hS3 hb3 hs3 => by
        rw [HS0.out] at hS3 hb3
        have hsz3 := hb3.size
        have hw4 : ∀ ob, Below (wr.heap.size + 1) (wr.alloc (.cells (kcs j) 27)).drew (w3.alloc ob) := fun ob => hb3.alloc (by have := HS0.out; omega) ob
        have q3 := cells_of w3 hb3
        have HL4 := HL.out.old (hB0.out.trans ((hw4 (.cells cs3 34)).mono (by omega)))
        obtain ⟨css, k1, k2, k3⟩ := HL4.K
        have hcl : css.length = j := k2.1.trans hXj
        have k4 := k1.1
        rw [hcl] at k4
        refine ⟨q3.1, fun ob => (cells_of _ (hw4 ob)).1, q3.2.1, fun ob => (cells_of _ (hw4 ob)).2.1, by have := HS0.out; omega, css, k4, fun g5 cap5 w5 hown5 hg5 hat5 => ?_⟩
        have own_lt : ∀ q, nv.ownBlock = some q → w.heap.size + 3 ≤ q ∧ q < wr.heap.size := fun q hq => by
          obtain ⟨css0, m1, _, _⟩ := HL.out.K
          exact m1.lt q hq
        have hne : ∀ q, (q < w.heap.size + 3 ∨ q = wr.heap.size) → some q ≠ nv.ownBlock := fun q hq e => by have := own_lt q e.symm; omega
        have hs4 : (w3.alloc (.cells cs3 34)).heap.size = w3.heap.size + 1 := World.size_alloc' _ _
        have q4 := cells_of _ (hw4 (.cells cs3 34))
        have far : ∀ (q i : Nat), (q < w.heap.size + 3 ∨ q = wr.heap.size) → w5.cell? ⟨q, i, none⟩ = (w3.alloc (.cells cs3 34)).cell? ⟨q, i, none⟩ := fun q i hq => hg5.cell_far ⟨q, i, none⟩ (by show q < _; have := HS0.out; omega) (hne q hq)
        have farS : ∀ (q i : Nat) (v : Value), (q < w.heap.size + 3 ∨ q = wr.heap.size) → q ≠ w.heap.size + 2 → (w5.setCell ⟨w.heap.size + 2, 7, none⟩ v).cell? ⟨q, i, none⟩ = (w3.alloc (.cells cs3 34)).cell? ⟨q, i, none⟩ := fun q i v hq h2 =>
          ((grown_setCell w5 (w.heap.size + 2) 7 v).cell_far ⟨q, i, none⟩ (by show q < _; have := hg5.size; have := HS0.out; omega) (fun e => h2 (Option.some.inj e))).trans (far q i hq)
        have hSide : Side (w.heap.size + 3) (av nv (fun _ => False)) (fun w2 => R w2 cs3 (xs j)) (w3.alloc (.cells cs3 34)) := by
          refine (((hS3.away (A' := av nv (fun _ => False)) (fun q hq => ?_)).base (by omega)).keep (A' := av nv (fun _ => False)) (by rw [hs4]; omega) (fun i _ b _ => Below.heap_alloc _ _ _ b) (fun q hq => .inl hq))
          rcases hq with hq | hq
          · right; left; have := own_lt q hq; omega
          · exact hq.elim
        refine ⟨⟨⟨(far _ 0 (.inl (by omega))).trans q4.1.1.1, (far _ 5 (.inl (by omega))).trans q4.1.1.2⟩, fun q => (far _ q (.inr rfl)).trans (q4.1.2 q)⟩, fun v => ⟨⟨(farS _ 0 v (.inl (by omega)) (by omega)).trans q4.1.1.1, (farS _ 5 v (.inl (by omega)) (by omega)).trans q4.1.1.2⟩, fun q => (farS _ q v (.inr rfl) (by omega)).trans (q4.1.2 q)⟩, (far _ 7 (.inl (by omega))).trans q4.2.1, ?_, ?_⟩
        · exact (hg5.frozen_far ⟨w.heap.size + 2, 7, none⟩ (by show w.heap.size + 2 < _; have := HS0.out; omega) (hne (w.heap.size + 2) (.inl (by omega)))).trans q4.2.2
        · exact GvL.snoc HL4 k1 k2 hcl hSide hs3 ho3 hown5 hg5 (hat5.elim .inl fun e => .inr (Nat.le_of_eq e.symm)) rfl)
      have c70 := (cells_of _ (Below.refl _ _)).2.1
      have K0 := (cells_of _ (Below.refl _ _)).1
      rw [hkc] at CC AFT K0 c70 HS0
      rw [hkc]
      have HKC := hide hkc
      clear cells_of hcj HSZ HSZL H1 H16 hXj hB0 hkc hrl
      have hjn : j ≤ 1000 := by have := HNL.out; omega
      have hguard : Hid (kidG k l tight = ((k == 3 && !l) || (tight && k == 4))) := hide rfl
      have hnvs : Hid (j + 1 ≤ n) := hide hl
      cases tight with
      | true =>
        by_cases h3 : k = 3
        · have k3 : (k == 3) = true := by rw [h3]; rfl
          have k4 : (k == 4) = false := by rw [h3]; rfl
          cases l with
          | true =>
            have hg : kidG k true true = false := by rw [hguard.out, k3, k4]; simp
            rw [hg] at CC
            clear hg hguard h3
            refine wp_region_held_drew (S := fun w' => (w'.cell? ⟨w.heap.size, 0, none⟩ = some (.int .i64 k) ∧ w'.cell? ⟨w.heap.size, 5, none⟩ = some (.bool true)) ∧ ∀ q, w'.cell? ⟨wr.heap.size, q, none⟩ = (#[a0, a1, a2, a3, a4, a5, a6, a7, a8, a9] : Array Value)[q]?) (by kernel_rfl) K0 (fun hHeld => ?_)
            refine wpAnyH_take (i := 0) (oi := ⟨_, _, _, _, _, _⟩) (v := ?v1) rfl (by kernel_rfl) (by kernel_rfl) (by kernel_rfl) (fun _ _ _ h => h) (Or.inl ⟨by rfl, ?hy1⟩) (by assumption) ?_
            case hy1 => intro wq hSw; (try dsimp only at hSw); go_simp; (try with_reducible rfl)
            try simp only [Act.put, List.setIfInBounds_toArray, List.set_cons_zero, List.set_cons_succ]
            refine wpAnyH_take (i := 2) (oi := ⟨_, _, _, _, _, _⟩) (v := ?v2) rfl (by kernel_rfl) (by kernel_rfl) (by kernel_rfl) (fun _ _ _ h => h) (Or.inl ⟨by rfl, ?hy2⟩) (by assumption) ?_
            case hy2 => intro wq hSw; (try dsimp only at hSw); go_simp; (try with_reducible rfl)
            try simp only [Act.put, List.setIfInBounds_toArray, List.set_cons_zero, List.set_cons_succ]
            refine wpAnyH_take (i := 3) (oi := ⟨_, _, _, _, _, _⟩) (v := ?v3) rfl (by kernel_rfl) (by kernel_rfl) (by kernel_rfl) (fun _ _ _ h => h) (Or.inl ⟨by rfl, ?hy3⟩) (by assumption) ?_
            case hy3 => intro wq hSw; (try dsimp only at hSw); go_simp; (try with_reducible rfl)
            try simp only [Act.put, List.setIfInBounds_toArray, List.set_cons_zero, List.set_cons_succ]
            refine wpAnyH_take (i := 4) (oi := ⟨_, _, _, _, _, _⟩) (v := ?v4) rfl (by kernel_rfl) (by kernel_rfl) (by kernel_rfl) (fun _ _ _ h => h) (Or.inl ⟨by rfl, ?hy4⟩) (by assumption) ?_
            case hy4 => intro wq hSw; (try dsimp only at hSw); go_simp; (try with_reducible rfl)
            try simp only [Act.put, List.setIfInBounds_toArray, List.set_cons_zero, List.set_cons_succ]
            refine wpAnyH_take (i := 5) (oi := ⟨_, _, _, _, _, _⟩) (v := ?v5) rfl (by kernel_rfl) (by kernel_rfl) (by kernel_rfl) (fun _ _ _ h => h) (Or.inl ⟨by rfl, ?hy5⟩) (by assumption) ?_
            case hy5 => intro wq hSw; (try dsimp only at hSw); go_simp; (try with_reducible rfl)
            try simp only [Act.put, List.setIfInBounds_toArray, List.set_cons_zero, List.set_cons_succ]
            refine wpAnyH_take (i := 6) (oi := ⟨_, _, _, _, _, _⟩) (v := ?v6) rfl (by kernel_rfl) (by kernel_rfl) (by kernel_rfl) (fun _ _ _ h => h) (Or.inl ⟨by rfl, ?hy6⟩) (by assumption) ?_
            case hy6 => intro wq hSw; (try dsimp only at hSw); go_simp; (try with_reducible rfl)
            try simp only [Act.put, List.setIfInBounds_toArray, List.set_cons_zero, List.set_cons_succ]
            refine wpAnyH_take (i := 7) (oi := ⟨_, _, _, _, _, _⟩) (v := ?v7) rfl (by kernel_rfl) (by kernel_rfl) (by kernel_rfl) (fun _ _ _ h => h) (Or.inl ⟨by rfl, ?hy7⟩) (by assumption) ?_
            case hy7 => intro wq hSw; (try dsimp only at hSw); go_simp; (try with_reducible rfl)
            try simp only [Act.put, List.setIfInBounds_toArray, List.set_cons_zero, List.set_cons_succ]
            refine wpAnyH_take (i := 8) (oi := ⟨_, _, _, _, _, _⟩) (v := ?v8) rfl (by kernel_rfl) (by kernel_rfl) (by kernel_rfl) (fun _ _ _ h => h) (Or.inl ⟨by rfl, ?hy8⟩) (by assumption) ?_
            case hy8 => intro wq hSw; (try dsimp only at hSw); go_simp; (try with_reducible rfl)
            try simp only [Act.put, List.setIfInBounds_toArray, List.set_cons_zero, List.set_cons_succ]
            refine wpAnyH_take (i := 9) (oi := ⟨_, _, _, _, _, _⟩) (v := ?v9) rfl (by kernel_rfl) (by kernel_rfl) (by kernel_rfl) (fun _ _ _ h => h) (Or.inl ⟨by rfl, ?hy9⟩) (by assumption) ?_
            case hy9 => intro wq hSw; (try dsimp only at hSw); go_simp; (try with_reducible rfl)
            try simp only [Act.put, List.setIfInBounds_toArray, List.set_cons_zero, List.set_cons_succ]
            refine wpAnyH_take (i := 10) (oi := ⟨_, _, _, _, _, _⟩) (v := ?v10) rfl (by kernel_rfl) (by kernel_rfl) (by kernel_rfl) (fun _ _ _ h => h) (Or.inl ⟨by rfl, ?hy10⟩) (by assumption) ?_
            case hy10 => intro wq hSw; (try dsimp only at hSw); go_simp; (try with_reducible rfl)
            try simp only [Act.put, List.setIfInBounds_toArray, List.set_cons_zero, List.set_cons_succ]
            refine wpAnyH_take (i := 11) (oi := ⟨_, _, _, _, _, _⟩) (v := ?v11) rfl (by kernel_rfl) (by kernel_rfl) (by kernel_rfl) (fun _ _ _ h => h) (Or.inl ⟨by rfl, ?hy11⟩) (by assumption) ?_
            case hy11 => intro wq hSw; (try dsimp only at hSw); go_simp; (try with_reducible rfl)
            try simp only [Act.put, List.setIfInBounds_toArray, List.set_cons_zero, List.set_cons_succ]
            refine wpAnyH_take (i := 12) (oi := ⟨_, _, _, _, _, _⟩) (v := ?v12) rfl (by kernel_rfl) (by kernel_rfl) (by kernel_rfl) (fun _ _ _ h => h) (Or.inl ⟨by rfl, ?hy12⟩) (by assumption) ?_
            case hy12 => intro wq hSw; (try dsimp only at hSw); go_simp; (try with_reducible rfl)
            try simp only [Act.put, List.setIfInBounds_toArray, List.set_cons_zero, List.set_cons_succ]
            refine wpAnyH_take (i := 13) (oi := ⟨_, _, _, _, _, _⟩) (v := ?v13) rfl (by kernel_rfl) (by kernel_rfl) (by kernel_rfl) (fun _ _ _ h => h) (Or.inl ⟨by rfl, ?hy13⟩) (by assumption) ?_
            case hy13 => intro wq hSw; (try dsimp only at hSw); go_simp; (try with_reducible rfl)
            try simp only [Act.put, List.setIfInBounds_toArray, List.set_cons_zero, List.set_cons_succ]
            refine wpAnyH_take (i := 14) (oi := ⟨_, _, _, _, _, _⟩) (v := ?v14) rfl (by kernel_rfl) (by kernel_rfl) (by kernel_rfl) (fun _ _ _ h => h) (Or.inl ⟨by rfl, ?hy14⟩) (by assumption) ?_
            case hy14 => intro wq hSw; (try dsimp only at hSw); go_simp; (try with_reducible rfl)
            try simp only [Act.put, List.setIfInBounds_toArray, List.set_cons_zero, List.set_cons_succ]
            refine wpAnyH_take (i := 15) (oi := ⟨_, _, _, _, _, _⟩) (v := ?v15) rfl (by kernel_rfl) (by kernel_rfl) (by kernel_rfl) (fun _ _ _ h => h) (Or.inl ⟨by rfl, ?hy15⟩) (by assumption) ?_
            case hy15 => intro wq hSw; (try dsimp only at hSw); go_simp; (try with_reducible rfl)
            try simp only [Act.put, List.setIfInBounds_toArray, List.set_cons_zero, List.set_cons_succ]
            refine wpAnyH_take (i := 16) (oi := ⟨_, _, _, _, _, _⟩) (v := ?v16) rfl (by kernel_rfl) (by kernel_rfl) (by kernel_rfl) (fun _ _ _ h => h) (Or.inl ⟨by rfl, ?hy16⟩) (by assumption) ?_
            case hy16 => intro wq hSw; (try dsimp only at hSw); go_simp; (try with_reducible rfl)
            try simp only [Act.put, List.setIfInBounds_toArray, List.set_cons_zero, List.set_cons_succ]
            refine wpAnyH_take (i := 17) (oi := ⟨_, _, _, _, _, _⟩) (v := ?v17) rfl (by kernel_rfl) (by kernel_rfl) (by kernel_rfl) (fun _ _ _ h => h) (Or.inl ⟨by rfl, ?hy17⟩) (by assumption) ?_
            case hy17 => intro wq hSw; (try dsimp only at hSw); go_simp; (try with_reducible rfl)
            try simp only [Act.put, List.setIfInBounds_toArray, List.set_cons_zero, List.set_cons_succ]
            refine wpAnyH_take (i := 18) (oi := ⟨_, _, _, _, _, _⟩) (v := ?v18) rfl (by kernel_rfl) (by kernel_rfl) (by kernel_rfl) (fun _ _ _ h => h) (Or.inl ⟨by rfl, ?hy18⟩) (by assumption) ?_
            case hy18 => intro wq hSw; (try dsimp only at hSw); go_simp; (try with_reducible rfl)
            try simp only [Act.put, List.setIfInBounds_toArray, List.set_cons_zero, List.set_cons_succ]
            refine wpAnyH_ready (rs := [1, 19]) (by kernel_rfl) (by simp) ?_
            refine AllReadyH.cons (o := ⟨_, _, _, _, _, _⟩) rfl (fun K hK => ?_) (AllReadyH.cons (o := ⟨_, _, _, _, _, _⟩) rfl (fun K hK => ?_) AllReadyH.nil)
            · go_simp
              refine hK.out _ _ (by exact K0) (fun hHeld => ?_)
              clear hK K
              try simp only [Act.put, List.setIfInBounds_toArray, List.set_cons_zero, List.set_cons_succ]
              refine wpAnyH_ready (rs := [19]) (by kernel_rfl) (by simp) ?_
              refine AllReadyH.cons (o := ⟨_, _, _, _, _, _⟩) rfl (fun K hK => ?_) AllReadyH.nil
              go_simp
              (go_at_call 7; (with_reducible refine CC.out.mono ?_); rintro e w3 ⟨cs3, rfl, hs3, ho3, hS3, hb3⟩; have AF0 := AFT.out cs3 w3 ho3 hS3 hb3 hs3; clear hS3 hb3; obtain ⟨b0, b1, b2, b3, b4, b5, b6, b7, b8, b9, b10, b11, b12, b13, b14, b15, rfl⟩ := sixteen_of_size hs3; have H3 := hide ho3; have AF := hide AF0; have K1 := AF.out.1; have K2 := AF.out.2.1; have c73 := AF.out.2.2.1; have c74 := AF.out.2.2.2.1; clear AF0 ho3 hs3)
              try go_wp2_with fail
              refine hK.out _ _ (by exact K1) (fun hHeld => ?_)
              clear hK K
              try simp only [Act.put, List.setIfInBounds_toArray, List.set_cons_zero, List.set_cons_succ]
              refine wpAnyH_ready (rs := [20]) (by kernel_rfl) (by simp) ?_
              refine AllReadyH.cons (o := ⟨_, _, _, _, _, _⟩) rfl (fun K hK => ?_) AllReadyH.nil
              go_simp
              refine hK.out _ _ (by exact K2 _) (fun hHeld => ?_)
              clear hK K
              try simp only [Act.put, List.setIfInBounds_toArray, List.set_cons_zero, List.set_cons_succ]
              refine wpAnyH_ready (rs := [21]) (by kernel_rfl) (by simp) ?_
              refine AllReadyH.cons (o := ⟨_, _, _, _, _, _⟩) rfl (fun K hK => ?_) AllReadyH.nil
              (obtain ⟨hle3, css, k1, hcl⟩ := AF.out.2.2.2.2; refine step_append_lies _ rfl (.tmp 55) (.tmp 74) 31 rfl (w.heap.size + 3) 34 i0 (.agg zeroI) 16 192 Tryz.underlying31 hi0 hz0 hz1 hz2 rfl (by decide) _ j (flat css) rfl k1 ⟨w3.heap.size, 0, none⟩ 1 1 (#[b0, b1, b2, b3, b4, b5, b6, b7, b8, b9, b10, b11, b12, b13, b14, b15] : Array Value).toList rfl rfl (World.news_of_block (newB1 w3 _)) (one_mem H3.out) (by omega) (by unfold maxLen; omega) (by omega) (by rw [World.size_alloc']; omega) _ rfl ?_; intro g5 cap5 w5 hown5 hg5 hat5 hlt5; have D5 := hide (hcl g5 cap5 w5 hown5 hg5 hat5); have K5 := D5.out.1; have K6 := D5.out.2.1; have c75 := D5.out.2.2.1; have f75 := D5.out.2.2.2.1; clear hown5 hg5 hat5 hlt5 k1 hcl)
              refine hK.out _ _ (by exact K5) (fun hHeld => ?_)
              clear hK K
              try simp only [Act.put, List.setIfInBounds_toArray, List.set_cons_zero, List.set_cons_succ]
              refine wpAnyH_ready (rs := [22]) (by kernel_rfl) (by simp) ?_
              refine AllReadyH.cons (o := ⟨_, _, _, _, _, _⟩) rfl (fun K hK => ?_) AllReadyH.nil
              go_simp
              refine hK.out _ _ (by exact K5) (fun hHeld => ?_)
              clear hK K
              try simp only [Act.put, List.setIfInBounds_toArray, List.set_cons_zero, List.set_cons_succ]
              refine wpAnyH_ready (rs := [23]) (by kernel_rfl) (by simp) ?_
              refine AllReadyH.cons (o := ⟨_, _, _, _, _, _⟩) rfl (fun K hK => ?_) AllReadyH.nil
              go_simp
              refine hK.out _ _ (by exact K6 _) (fun hHeld => ?_)
              clear hK K
              try simp only [Act.put, List.setIfInBounds_toArray, List.set_cons_zero, List.set_cons_succ]
              refine wpAnyH_done (by kernel_rfl) ?_ _
              go_wp2
              go_roundw
              case rel => exact ⟨j + 1, _, xl ++ [xs j], by omega, by go_num, hide (snoc_get HX.out), hide D5.out.2.2.2.2⟩
              case measure => simp [intOf]; omega
            · go_simp
              (go_at_call 7; (with_reducible refine CC.out.mono ?_); rintro e w3 ⟨cs3, rfl, hs3, ho3, hS3, hb3⟩; have AF0 := AFT.out cs3 w3 ho3 hS3 hb3 hs3; clear hS3 hb3; obtain ⟨b0, b1, b2, b3, b4, b5, b6, b7, b8, b9, b10, b11, b12, b13, b14, b15, rfl⟩ := sixteen_of_size hs3; have H3 := hide ho3; have AF := hide AF0; have K1 := AF.out.1; have K2 := AF.out.2.1; have c73 := AF.out.2.2.1; have c74 := AF.out.2.2.2.1; clear AF0 ho3 hs3)
              try go_wp2_with fail
              refine hK.out _ _ (by exact K1) (fun hHeld => ?_)
              clear hK K
              try simp only [Act.put, List.setIfInBounds_toArray, List.set_cons_zero, List.set_cons_succ]
              refine wpAnyH_ready (rs := [1, 20]) (by kernel_rfl) (by simp) ?_
              refine AllReadyH.cons (o := ⟨_, _, _, _, _, _⟩) rfl (fun K hK => ?_) (AllReadyH.cons (o := ⟨_, _, _, _, _, _⟩) rfl (fun K hK => ?_) AllReadyH.nil)
              · go_simp
                refine hK.out _ _ (by exact K1) (fun hHeld => ?_)
                clear hK K
                try simp only [Act.put, List.setIfInBounds_toArray, List.set_cons_zero, List.set_cons_succ]
                refine wpAnyH_ready (rs := [20]) (by kernel_rfl) (by simp) ?_
                refine AllReadyH.cons (o := ⟨_, _, _, _, _, _⟩) rfl (fun K hK => ?_) AllReadyH.nil
                go_simp
                refine hK.out _ _ (by exact K2 _) (fun hHeld => ?_)
                clear hK K
                try simp only [Act.put, List.setIfInBounds_toArray, List.set_cons_zero, List.set_cons_succ]
                refine wpAnyH_ready (rs := [21]) (by kernel_rfl) (by simp) ?_
                refine AllReadyH.cons (o := ⟨_, _, _, _, _, _⟩) rfl (fun K hK => ?_) AllReadyH.nil
                (obtain ⟨hle3, css, k1, hcl⟩ := AF.out.2.2.2.2; refine step_append_lies _ rfl (.tmp 55) (.tmp 74) 31 rfl (w.heap.size + 3) 34 i0 (.agg zeroI) 16 192 Tryz.underlying31 hi0 hz0 hz1 hz2 rfl (by decide) _ j (flat css) rfl k1 ⟨w3.heap.size, 0, none⟩ 1 1 (#[b0, b1, b2, b3, b4, b5, b6, b7, b8, b9, b10, b11, b12, b13, b14, b15] : Array Value).toList rfl rfl (World.news_of_block (newB1 w3 _)) (one_mem H3.out) (by omega) (by unfold maxLen; omega) (by omega) (by rw [World.size_alloc']; omega) _ rfl ?_; intro g5 cap5 w5 hown5 hg5 hat5 hlt5; have D5 := hide (hcl g5 cap5 w5 hown5 hg5 hat5); have K5 := D5.out.1; have K6 := D5.out.2.1; have c75 := D5.out.2.2.1; have f75 := D5.out.2.2.2.1; clear hown5 hg5 hat5 hlt5 k1 hcl)
                refine hK.out _ _ (by exact K5) (fun hHeld => ?_)
                clear hK K
                try simp only [Act.put, List.setIfInBounds_toArray, List.set_cons_zero, List.set_cons_succ]
                refine wpAnyH_ready (rs := [22]) (by kernel_rfl) (by simp) ?_
                refine AllReadyH.cons (o := ⟨_, _, _, _, _, _⟩) rfl (fun K hK => ?_) AllReadyH.nil
                go_simp
                refine hK.out _ _ (by exact K5) (fun hHeld => ?_)
                clear hK K
                try simp only [Act.put, List.setIfInBounds_toArray, List.set_cons_zero, List.set_cons_succ]
                refine wpAnyH_ready (rs := [23]) (by kernel_rfl) (by simp) ?_
                refine AllReadyH.cons (o := ⟨_, _, _, _, _, _⟩) rfl (fun K hK => ?_) AllReadyH.nil
                go_simp
                refine hK.out _ _ (by exact K6 _) (fun hHeld => ?_)
                clear hK K
                try simp only [Act.put, List.setIfInBounds_toArray, List.set_cons_zero, List.set_cons_succ]
                refine wpAnyH_done (by kernel_rfl) ?_ _
                go_wp2
                go_roundw
                case rel => exact ⟨j + 1, _, xl ++ [xs j], by omega, by go_num, hide (snoc_get HX.out), hide D5.out.2.2.2.2⟩
                case measure => simp [intOf]; omega
              · go_simp
                refine hK.out _ _ (by exact K2 _) (fun hHeld => ?_)
                clear hK K
                try simp only [Act.put, List.setIfInBounds_toArray, List.set_cons_zero, List.set_cons_succ]
                refine wpAnyH_ready (rs := [1]) (by kernel_rfl) (by simp) ?_
                refine AllReadyH.cons (o := ⟨_, _, _, _, _, _⟩) rfl (fun K hK => ?_) AllReadyH.nil
                go_simp
                refine hK.out _ _ (by exact K2 _) (fun hHeld => ?_)
                clear hK K
                try simp only [Act.put, List.setIfInBounds_toArray, List.set_cons_zero, List.set_cons_succ]
                refine wpAnyH_ready (rs := [21]) (by kernel_rfl) (by simp) ?_
                refine AllReadyH.cons (o := ⟨_, _, _, _, _, _⟩) rfl (fun K hK => ?_) AllReadyH.nil
                (obtain ⟨hle3, css, k1, hcl⟩ := AF.out.2.2.2.2; refine step_append_lies _ rfl (.tmp 55) (.tmp 74) 31 rfl (w.heap.size + 3) 34 i0 (.agg zeroI) 16 192 Tryz.underlying31 hi0 hz0 hz1 hz2 rfl (by decide) _ j (flat css) rfl k1 ⟨w3.heap.size, 0, none⟩ 1 1 (#[b0, b1, b2, b3, b4, b5, b6, b7, b8, b9, b10, b11, b12, b13, b14, b15] : Array Value).toList rfl rfl (World.news_of_block (newB1 w3 _)) (one_mem H3.out) (by omega) (by unfold maxLen; omega) (by omega) (by rw [World.size_alloc']; omega) _ rfl ?_; intro g5 cap5 w5 hown5 hg5 hat5 hlt5; have D5 := hide (hcl g5 cap5 w5 hown5 hg5 hat5); have K5 := D5.out.1; have K6 := D5.out.2.1; have c75 := D5.out.2.2.1; have f75 := D5.out.2.2.2.1; clear hown5 hg5 hat5 hlt5 k1 hcl)
                refine hK.out _ _ (by exact K5) (fun hHeld => ?_)
                clear hK K
                try simp only [Act.put, List.setIfInBounds_toArray, List.set_cons_zero, List.set_cons_succ]
                refine wpAnyH_ready (rs := [22]) (by kernel_rfl) (by simp) ?_
                refine AllReadyH.cons (o := ⟨_, _, _, _, _, _⟩) rfl (fun K hK => ?_) AllReadyH.nil
                go_simp
                refine hK.out _ _ (by exact K5) (fun hHeld => ?_)
                clear hK K
                try simp only [Act.put, List.setIfInBounds_toArray, List.set_cons_zero, List.set_cons_succ]
                refine wpAnyH_ready (rs := [23]) (by kernel_rfl) (by simp) ?_
                refine AllReadyH.cons (o := ⟨_, _, _, _, _, _⟩) rfl (fun K hK => ?_) AllReadyH.nil
                go_simp
                refine hK.out _ _ (by exact K6 _) (fun hHeld => ?_)
                clear hK K
                try simp only [Act.put, List.setIfInBounds_toArray, List.set_cons_zero, List.set_cons_succ]
                refine wpAnyH_done (by kernel_rfl) ?_ _
                go_wp2
                go_roundw
                case rel => exact ⟨j + 1, _, xl ++ [xs j], by omega, by go_num, hide (snoc_get HX.out), hide D5.out.2.2.2.2⟩
                case measure => simp [intOf]; omega
          | false =>
            have hg : kidG k false true = true := by rw [hguard.out, k3]; simp
            rw [hg] at CC
            clear hg hguard h3
            refine wp_region_held_drew (S := fun w' => (w'.cell? ⟨w.heap.size, 0, none⟩ = some (.int .i64 k) ∧ w'.cell? ⟨w.heap.size, 5, none⟩ = some (.bool false)) ∧ ∀ q, w'.cell? ⟨wr.heap.size, q, none⟩ = (#[a0, a1, a2, a3, a4, a5, a6, a7, a8, a9] : Array Value)[q]?) (by kernel_rfl) K0 (fun hHeld => ?_)
            refine wpAnyH_take (i := 0) (oi := ⟨_, _, _, _, _, _⟩) (v := ?v19) rfl (by kernel_rfl) (by kernel_rfl) (by kernel_rfl) (fun _ _ _ h => h) (Or.inl ⟨by rfl, ?hy19⟩) (by assumption) ?_
            case hy19 => intro wq hSw; (try dsimp only at hSw); go_simp; (try with_reducible rfl)
            try simp only [Act.put, List.setIfInBounds_toArray, List.set_cons_zero, List.set_cons_succ]
            refine wpAnyH_take (i := 2) (oi := ⟨_, _, _, _, _, _⟩) (v := ?v20) rfl (by kernel_rfl) (by kernel_rfl) (by kernel_rfl) (fun _ _ _ h => h) (Or.inl ⟨by rfl, ?hy20⟩) (by assumption) ?_
            case hy20 => intro wq hSw; (try dsimp only at hSw); go_simp; (try with_reducible rfl)
            try simp only [Act.put, List.setIfInBounds_toArray, List.set_cons_zero, List.set_cons_succ]
            refine wpAnyH_take (i := 3) (oi := ⟨_, _, _, _, _, _⟩) (v := ?v21) rfl (by kernel_rfl) (by kernel_rfl) (by kernel_rfl) (fun _ _ _ h => h) (Or.inl ⟨by rfl, ?hy21⟩) (by assumption) ?_
            case hy21 => intro wq hSw; (try dsimp only at hSw); go_simp; (try with_reducible rfl)
            try simp only [Act.put, List.setIfInBounds_toArray, List.set_cons_zero, List.set_cons_succ]
            refine wpAnyH_take (i := 4) (oi := ⟨_, _, _, _, _, _⟩) (v := ?v22) rfl (by kernel_rfl) (by kernel_rfl) (by kernel_rfl) (fun _ _ _ h => h) (Or.inl ⟨by rfl, ?hy22⟩) (by assumption) ?_
            case hy22 => intro wq hSw; (try dsimp only at hSw); go_simp; (try with_reducible rfl)
            try simp only [Act.put, List.setIfInBounds_toArray, List.set_cons_zero, List.set_cons_succ]
            refine wpAnyH_take (i := 5) (oi := ⟨_, _, _, _, _, _⟩) (v := ?v23) rfl (by kernel_rfl) (by kernel_rfl) (by kernel_rfl) (fun _ _ _ h => h) (Or.inl ⟨by rfl, ?hy23⟩) (by assumption) ?_
            case hy23 => intro wq hSw; (try dsimp only at hSw); go_simp; (try with_reducible rfl)
            try simp only [Act.put, List.setIfInBounds_toArray, List.set_cons_zero, List.set_cons_succ]
            refine wpAnyH_take (i := 6) (oi := ⟨_, _, _, _, _, _⟩) (v := ?v24) rfl (by kernel_rfl) (by kernel_rfl) (by kernel_rfl) (fun _ _ _ h => h) (Or.inl ⟨by rfl, ?hy24⟩) (by assumption) ?_
            case hy24 => intro wq hSw; (try dsimp only at hSw); go_simp; (try with_reducible rfl)
            try simp only [Act.put, List.setIfInBounds_toArray, List.set_cons_zero, List.set_cons_succ]
            refine wpAnyH_take (i := 7) (oi := ⟨_, _, _, _, _, _⟩) (v := ?v25) rfl (by kernel_rfl) (by kernel_rfl) (by kernel_rfl) (fun _ _ _ h => h) (Or.inl ⟨by rfl, ?hy25⟩) (by assumption) ?_
            case hy25 => intro wq hSw; (try dsimp only at hSw); go_simp; (try with_reducible rfl)
            try simp only [Act.put, List.setIfInBounds_toArray, List.set_cons_zero, List.set_cons_succ]
            refine wpAnyH_take (i := 8) (oi := ⟨_, _, _, _, _, _⟩) (v := ?v26) rfl (by kernel_rfl) (by kernel_rfl) (by kernel_rfl) (fun _ _ _ h => h) (Or.inl ⟨by rfl, ?hy26⟩) (by assumption) ?_
            case hy26 => intro wq hSw; (try dsimp only at hSw); go_simp; (try with_reducible rfl)
            try simp only [Act.put, List.setIfInBounds_toArray, List.set_cons_zero, List.set_cons_succ]
            refine wpAnyH_take (i := 9) (oi := ⟨_, _, _, _, _, _⟩) (v := ?v27) rfl (by kernel_rfl) (by kernel_rfl) (by kernel_rfl) (fun _ _ _ h => h) (Or.inl ⟨by rfl, ?hy27⟩) (by assumption) ?_
            case hy27 => intro wq hSw; (try dsimp only at hSw); go_simp; (try with_reducible rfl)
            try simp only [Act.put, List.setIfInBounds_toArray, List.set_cons_zero, List.set_cons_succ]
            refine wpAnyH_take (i := 10) (oi := ⟨_, _, _, _, _, _⟩) (v := ?v28) rfl (by kernel_rfl) (by kernel_rfl) (by kernel_rfl) (fun _ _ _ h => h) (Or.inl ⟨by rfl, ?hy28⟩) (by assumption) ?_
            case hy28 => intro wq hSw; (try dsimp only at hSw); go_simp; (try with_reducible rfl)
            try simp only [Act.put, List.setIfInBounds_toArray, List.set_cons_zero, List.set_cons_succ]
            refine wpAnyH_take (i := 11) (oi := ⟨_, _, _, _, _, _⟩) (v := ?v29) rfl (by kernel_rfl) (by kernel_rfl) (by kernel_rfl) (fun _ _ _ h => h) (Or.inl ⟨by rfl, ?hy29⟩) (by assumption) ?_
            case hy29 => intro wq hSw; (try dsimp only at hSw); go_simp; (try with_reducible rfl)
            try simp only [Act.put, List.setIfInBounds_toArray, List.set_cons_zero, List.set_cons_succ]
            refine wpAnyH_take (i := 12) (oi := ⟨_, _, _, _, _, _⟩) (v := undef) rfl (by kernel_rfl) (by kernel_rfl) (by kernel_rfl) (fun _ _ _ h => h) (Or.inr ⟨by rfl, rfl⟩) (by assumption) ?_
            try simp only [Act.put, List.setIfInBounds_toArray, List.set_cons_zero, List.set_cons_succ]
            refine wpAnyH_take (i := 13) (oi := ⟨_, _, _, _, _, _⟩) (v := undef) rfl (by kernel_rfl) (by kernel_rfl) (by kernel_rfl) (fun _ _ _ h => h) (Or.inr ⟨by rfl, rfl⟩) (by assumption) ?_
            try simp only [Act.put, List.setIfInBounds_toArray, List.set_cons_zero, List.set_cons_succ]
            refine wpAnyH_take (i := 14) (oi := ⟨_, _, _, _, _, _⟩) (v := undef) rfl (by kernel_rfl) (by kernel_rfl) (by kernel_rfl) (fun _ _ _ h => h) (Or.inr ⟨by rfl, rfl⟩) (by assumption) ?_
            try simp only [Act.put, List.setIfInBounds_toArray, List.set_cons_zero, List.set_cons_succ]
            refine wpAnyH_take (i := 15) (oi := ⟨_, _, _, _, _, _⟩) (v := undef) rfl (by kernel_rfl) (by kernel_rfl) (by kernel_rfl) (fun _ _ _ h => h) (Or.inr ⟨by rfl, rfl⟩) (by assumption) ?_
            try simp only [Act.put, List.setIfInBounds_toArray, List.set_cons_zero, List.set_cons_succ]
            refine wpAnyH_take (i := 16) (oi := ⟨_, _, _, _, _, _⟩) (v := undef) rfl (by kernel_rfl) (by kernel_rfl) (by kernel_rfl) (fun _ _ _ h => h) (Or.inr ⟨by rfl, rfl⟩) (by assumption) ?_
            try simp only [Act.put, List.setIfInBounds_toArray, List.set_cons_zero, List.set_cons_succ]
            refine wpAnyH_take (i := 17) (oi := ⟨_, _, _, _, _, _⟩) (v := undef) rfl (by kernel_rfl) (by kernel_rfl) (by kernel_rfl) (fun _ _ _ h => h) (Or.inr ⟨by rfl, rfl⟩) (by assumption) ?_
            try simp only [Act.put, List.setIfInBounds_toArray, List.set_cons_zero, List.set_cons_succ]
            refine wpAnyH_take (i := 18) (oi := ⟨_, _, _, _, _, _⟩) (v := ?v36) rfl (by kernel_rfl) (by kernel_rfl) (by kernel_rfl) (fun _ _ _ h => h) (Or.inl ⟨by rfl, ?hy36⟩) (by assumption) ?_
            case hy36 => intro wq hSw; (try dsimp only at hSw); go_simp; (try with_reducible rfl)
            try simp only [Act.put, List.setIfInBounds_toArray, List.set_cons_zero, List.set_cons_succ]
            refine wpAnyH_ready (rs := [1, 19]) (by kernel_rfl) (by simp) ?_
            refine AllReadyH.cons (o := ⟨_, _, _, _, _, _⟩) rfl (fun K hK => ?_) (AllReadyH.cons (o := ⟨_, _, _, _, _, _⟩) rfl (fun K hK => ?_) AllReadyH.nil)
            · go_simp
              refine hK.out _ _ (by exact K0) (fun hHeld => ?_)
              clear hK K
              try simp only [Act.put, List.setIfInBounds_toArray, List.set_cons_zero, List.set_cons_succ]
              refine wpAnyH_ready (rs := [19]) (by kernel_rfl) (by simp) ?_
              refine AllReadyH.cons (o := ⟨_, _, _, _, _, _⟩) rfl (fun K hK => ?_) AllReadyH.nil
              go_simp
              (go_at_call 7; (with_reducible refine CC.out.mono ?_); rintro e w3 ⟨cs3, rfl, hs3, ho3, hS3, hb3⟩; have AF0 := AFT.out cs3 w3 ho3 hS3 hb3 hs3; clear hS3 hb3; obtain ⟨b0, b1, b2, b3, b4, b5, b6, b7, b8, b9, b10, b11, b12, b13, b14, b15, rfl⟩ := sixteen_of_size hs3; have H3 := hide ho3; have AF := hide AF0; have K1 := AF.out.1; have K2 := AF.out.2.1; have c73 := AF.out.2.2.1; have c74 := AF.out.2.2.2.1; clear AF0 ho3 hs3)
              try go_wp2_with fail
              refine hK.out _ _ (by exact K1) (fun hHeld => ?_)
              clear hK K
              try simp only [Act.put, List.setIfInBounds_toArray, List.set_cons_zero, List.set_cons_succ]
              refine wpAnyH_ready (rs := [20]) (by kernel_rfl) (by simp) ?_
              refine AllReadyH.cons (o := ⟨_, _, _, _, _, _⟩) rfl (fun K hK => ?_) AllReadyH.nil
              go_simp
              refine hK.out _ _ (by exact K2 _) (fun hHeld => ?_)
              clear hK K
              try simp only [Act.put, List.setIfInBounds_toArray, List.set_cons_zero, List.set_cons_succ]
              refine wpAnyH_ready (rs := [21]) (by kernel_rfl) (by simp) ?_
              refine AllReadyH.cons (o := ⟨_, _, _, _, _, _⟩) rfl (fun K hK => ?_) AllReadyH.nil
              (obtain ⟨hle3, css, k1, hcl⟩ := AF.out.2.2.2.2; refine step_append_lies _ rfl (.tmp 55) (.tmp 74) 31 rfl (w.heap.size + 3) 34 i0 (.agg zeroI) 16 192 Tryz.underlying31 hi0 hz0 hz1 hz2 rfl (by decide) _ j (flat css) rfl k1 ⟨w3.heap.size, 0, none⟩ 1 1 (#[b0, b1, b2, b3, b4, b5, b6, b7, b8, b9, b10, b11, b12, b13, b14, b15] : Array Value).toList rfl rfl (World.news_of_block (newB1 w3 _)) (one_mem H3.out) (by omega) (by unfold maxLen; omega) (by omega) (by rw [World.size_alloc']; omega) _ rfl ?_; intro g5 cap5 w5 hown5 hg5 hat5 hlt5; have D5 := hide (hcl g5 cap5 w5 hown5 hg5 hat5); have K5 := D5.out.1; have K6 := D5.out.2.1; have c75 := D5.out.2.2.1; have f75 := D5.out.2.2.2.1; clear hown5 hg5 hat5 hlt5 k1 hcl)
              refine hK.out _ _ (by exact K5) (fun hHeld => ?_)
              clear hK K
              try simp only [Act.put, List.setIfInBounds_toArray, List.set_cons_zero, List.set_cons_succ]
              refine wpAnyH_ready (rs := [22]) (by kernel_rfl) (by simp) ?_
              refine AllReadyH.cons (o := ⟨_, _, _, _, _, _⟩) rfl (fun K hK => ?_) AllReadyH.nil
              go_simp
              refine hK.out _ _ (by exact K5) (fun hHeld => ?_)
              clear hK K
              try simp only [Act.put, List.setIfInBounds_toArray, List.set_cons_zero, List.set_cons_succ]
              refine wpAnyH_ready (rs := [23]) (by kernel_rfl) (by simp) ?_
              refine AllReadyH.cons (o := ⟨_, _, _, _, _, _⟩) rfl (fun K hK => ?_) AllReadyH.nil
              go_simp
              refine hK.out _ _ (by exact K6 _) (fun hHeld => ?_)
              clear hK K
              try simp only [Act.put, List.setIfInBounds_toArray, List.set_cons_zero, List.set_cons_succ]
              refine wpAnyH_done (by kernel_rfl) ?_ _
              go_wp2
              go_roundw
              case rel => exact ⟨j + 1, _, xl ++ [xs j], by omega, by go_num, hide (snoc_get HX.out), hide D5.out.2.2.2.2⟩
              case measure => simp [intOf]; omega
            · go_simp
              (go_at_call 7; (with_reducible refine CC.out.mono ?_); rintro e w3 ⟨cs3, rfl, hs3, ho3, hS3, hb3⟩; have AF0 := AFT.out cs3 w3 ho3 hS3 hb3 hs3; clear hS3 hb3; obtain ⟨b0, b1, b2, b3, b4, b5, b6, b7, b8, b9, b10, b11, b12, b13, b14, b15, rfl⟩ := sixteen_of_size hs3; have H3 := hide ho3; have AF := hide AF0; have K1 := AF.out.1; have K2 := AF.out.2.1; have c73 := AF.out.2.2.1; have c74 := AF.out.2.2.2.1; clear AF0 ho3 hs3)
              try go_wp2_with fail
              refine hK.out _ _ (by exact K1) (fun hHeld => ?_)
              clear hK K
              try simp only [Act.put, List.setIfInBounds_toArray, List.set_cons_zero, List.set_cons_succ]
              refine wpAnyH_ready (rs := [1, 20]) (by kernel_rfl) (by simp) ?_
              refine AllReadyH.cons (o := ⟨_, _, _, _, _, _⟩) rfl (fun K hK => ?_) (AllReadyH.cons (o := ⟨_, _, _, _, _, _⟩) rfl (fun K hK => ?_) AllReadyH.nil)
              · go_simp
                refine hK.out _ _ (by exact K1) (fun hHeld => ?_)
                clear hK K
                try simp only [Act.put, List.setIfInBounds_toArray, List.set_cons_zero, List.set_cons_succ]
                refine wpAnyH_ready (rs := [20]) (by kernel_rfl) (by simp) ?_
                refine AllReadyH.cons (o := ⟨_, _, _, _, _, _⟩) rfl (fun K hK => ?_) AllReadyH.nil
                go_simp
                refine hK.out _ _ (by exact K2 _) (fun hHeld => ?_)
                clear hK K
                try simp only [Act.put, List.setIfInBounds_toArray, List.set_cons_zero, List.set_cons_succ]
                refine wpAnyH_ready (rs := [21]) (by kernel_rfl) (by simp) ?_
                refine AllReadyH.cons (o := ⟨_, _, _, _, _, _⟩) rfl (fun K hK => ?_) AllReadyH.nil
                (obtain ⟨hle3, css, k1, hcl⟩ := AF.out.2.2.2.2; refine step_append_lies _ rfl (.tmp 55) (.tmp 74) 31 rfl (w.heap.size + 3) 34 i0 (.agg zeroI) 16 192 Tryz.underlying31 hi0 hz0 hz1 hz2 rfl (by decide) _ j (flat css) rfl k1 ⟨w3.heap.size, 0, none⟩ 1 1 (#[b0, b1, b2, b3, b4, b5, b6, b7, b8, b9, b10, b11, b12, b13, b14, b15] : Array Value).toList rfl rfl (World.news_of_block (newB1 w3 _)) (one_mem H3.out) (by omega) (by unfold maxLen; omega) (by omega) (by rw [World.size_alloc']; omega) _ rfl ?_; intro g5 cap5 w5 hown5 hg5 hat5 hlt5; have D5 := hide (hcl g5 cap5 w5 hown5 hg5 hat5); have K5 := D5.out.1; have K6 := D5.out.2.1; have c75 := D5.out.2.2.1; have f75 := D5.out.2.2.2.1; clear hown5 hg5 hat5 hlt5 k1 hcl)
                refine hK.out _ _ (by exact K5) (fun hHeld => ?_)
                clear hK K
                try simp only [Act.put, List.setIfInBounds_toArray, List.set_cons_zero, List.set_cons_succ]
                refine wpAnyH_ready (rs := [22]) (by kernel_rfl) (by simp) ?_
                refine AllReadyH.cons (o := ⟨_, _, _, _, _, _⟩) rfl (fun K hK => ?_) AllReadyH.nil
                go_simp
                refine hK.out _ _ (by exact K5) (fun hHeld => ?_)
                clear hK K
                try simp only [Act.put, List.setIfInBounds_toArray, List.set_cons_zero, List.set_cons_succ]
                refine wpAnyH_ready (rs := [23]) (by kernel_rfl) (by simp) ?_
                refine AllReadyH.cons (o := ⟨_, _, _, _, _, _⟩) rfl (fun K hK => ?_) AllReadyH.nil
                go_simp
                refine hK.out _ _ (by exact K6 _) (fun hHeld => ?_)
                clear hK K
                try simp only [Act.put, List.setIfInBounds_toArray, List.set_cons_zero, List.set_cons_succ]
                refine wpAnyH_done (by kernel_rfl) ?_ _
                go_wp2
                go_roundw
                case rel => exact ⟨j + 1, _, xl ++ [xs j], by omega, by go_num, hide (snoc_get HX.out), hide D5.out.2.2.2.2⟩
                case measure => simp [intOf]; omega
              · go_simp
                refine hK.out _ _ (by exact K2 _) (fun hHeld => ?_)
                clear hK K
                try simp only [Act.put, List.setIfInBounds_toArray, List.set_cons_zero, List.set_cons_succ]
                refine wpAnyH_ready (rs := [1]) (by kernel_rfl) (by simp) ?_
                refine AllReadyH.cons (o := ⟨_, _, _, _, _, _⟩) rfl (fun K hK => ?_) AllReadyH.nil
                go_simp
                refine hK.out _ _ (by exact K2 _) (fun hHeld => ?_)
                clear hK K
                try simp only [Act.put, List.setIfInBounds_toArray, List.set_cons_zero, List.set_cons_succ]
                refine wpAnyH_ready (rs := [21]) (by kernel_rfl) (by simp) ?_
                refine AllReadyH.cons (o := ⟨_, _, _, _, _, _⟩) rfl (fun K hK => ?_) AllReadyH.nil
                (obtain ⟨hle3, css, k1, hcl⟩ := AF.out.2.2.2.2; refine step_append_lies _ rfl (.tmp 55) (.tmp 74) 31 rfl (w.heap.size + 3) 34 i0 (.agg zeroI) 16 192 Tryz.underlying31 hi0 hz0 hz1 hz2 rfl (by decide) _ j (flat css) rfl k1 ⟨w3.heap.size, 0, none⟩ 1 1 (#[b0, b1, b2, b3, b4, b5, b6, b7, b8, b9, b10, b11, b12, b13, b14, b15] : Array Value).toList rfl rfl (World.news_of_block (newB1 w3 _)) (one_mem H3.out) (by omega) (by unfold maxLen; omega) (by omega) (by rw [World.size_alloc']; omega) _ rfl ?_; intro g5 cap5 w5 hown5 hg5 hat5 hlt5; have D5 := hide (hcl g5 cap5 w5 hown5 hg5 hat5); have K5 := D5.out.1; have K6 := D5.out.2.1; have c75 := D5.out.2.2.1; have f75 := D5.out.2.2.2.1; clear hown5 hg5 hat5 hlt5 k1 hcl)
                refine hK.out _ _ (by exact K5) (fun hHeld => ?_)
                clear hK K
                try simp only [Act.put, List.setIfInBounds_toArray, List.set_cons_zero, List.set_cons_succ]
                refine wpAnyH_ready (rs := [22]) (by kernel_rfl) (by simp) ?_
                refine AllReadyH.cons (o := ⟨_, _, _, _, _, _⟩) rfl (fun K hK => ?_) AllReadyH.nil
                go_simp
                refine hK.out _ _ (by exact K5) (fun hHeld => ?_)
                clear hK K
                try simp only [Act.put, List.setIfInBounds_toArray, List.set_cons_zero, List.set_cons_succ]
                refine wpAnyH_ready (rs := [23]) (by kernel_rfl) (by simp) ?_
                refine AllReadyH.cons (o := ⟨_, _, _, _, _, _⟩) rfl (fun K hK => ?_) AllReadyH.nil
                go_simp
                refine hK.out _ _ (by exact K6 _) (fun hHeld => ?_)
                clear hK K
                try simp only [Act.put, List.setIfInBounds_toArray, List.set_cons_zero, List.set_cons_succ]
                refine wpAnyH_done (by kernel_rfl) ?_ _
                go_wp2
                go_roundw
                case rel => exact ⟨j + 1, _, xl ++ [xs j], by omega, by go_num, hide (snoc_get HX.out), hide D5.out.2.2.2.2⟩
                case measure => simp [intOf]; omega
        · have k3 : (k == 3) = false := by rw [beq_eq_false_iff_ne]; exact h3
          by_cases h4 : k = 4
          · have k4 : (k == 4) = true := by rw [h4]; rfl
            have hg : kidG k l true = true := by rw [hguard.out, k3, k4]; simp
            rw [hg] at CC
            clear hg hguard h3 h4
            refine wp_region_held_drew (S := fun w' => (w'.cell? ⟨w.heap.size, 0, none⟩ = some (.int .i64 k) ∧ w'.cell? ⟨w.heap.size, 5, none⟩ = some (.bool l)) ∧ ∀ q, w'.cell? ⟨wr.heap.size, q, none⟩ = (#[a0, a1, a2, a3, a4, a5, a6, a7, a8, a9] : Array Value)[q]?) (by kernel_rfl) K0 (fun hHeld => ?_)
            refine wpAnyH_take (i := 0) (oi := ⟨_, _, _, _, _, _⟩) (v := ?v37) rfl (by kernel_rfl) (by kernel_rfl) (by kernel_rfl) (fun _ _ _ h => h) (Or.inl ⟨by rfl, ?hy37⟩) (by assumption) ?_
            case hy37 => intro wq hSw; (try dsimp only at hSw); go_simp; (try with_reducible rfl)
            try simp only [Act.put, List.setIfInBounds_toArray, List.set_cons_zero, List.set_cons_succ]
            refine wpAnyH_take (i := 2) (oi := ⟨_, _, _, _, _, _⟩) (v := ?v38) rfl (by kernel_rfl) (by kernel_rfl) (by kernel_rfl) (fun _ _ _ h => h) (Or.inl ⟨by rfl, ?hy38⟩) (by assumption) ?_
            case hy38 => intro wq hSw; (try dsimp only at hSw); go_simp; (try with_reducible rfl)
            try simp only [Act.put, List.setIfInBounds_toArray, List.set_cons_zero, List.set_cons_succ]
            refine wpAnyH_take (i := 3) (oi := ⟨_, _, _, _, _, _⟩) (v := ?v39) rfl (by kernel_rfl) (by kernel_rfl) (by kernel_rfl) (fun _ _ _ h => h) (Or.inl ⟨by rfl, ?hy39⟩) (by assumption) ?_
            case hy39 => intro wq hSw; (try dsimp only at hSw); go_simp; (try with_reducible rfl)
            try simp only [Act.put, List.setIfInBounds_toArray, List.set_cons_zero, List.set_cons_succ]
            refine wpAnyH_take (i := 4) (oi := ⟨_, _, _, _, _, _⟩) (v := ?v40) rfl (by kernel_rfl) (by kernel_rfl) (by kernel_rfl) (fun _ _ _ h => h) (Or.inl ⟨by rfl, ?hy40⟩) (by assumption) ?_
            case hy40 => intro wq hSw; (try dsimp only at hSw); go_simp; (try with_reducible rfl)
            try simp only [Act.put, List.setIfInBounds_toArray, List.set_cons_zero, List.set_cons_succ]
            refine wpAnyH_take (i := 5) (oi := ⟨_, _, _, _, _, _⟩) (v := ?v41) rfl (by kernel_rfl) (by kernel_rfl) (by kernel_rfl) (fun _ _ _ h => h) (Or.inl ⟨by rfl, ?hy41⟩) (by assumption) ?_
            case hy41 => intro wq hSw; (try dsimp only at hSw); go_simp; (try with_reducible rfl)
            try simp only [Act.put, List.setIfInBounds_toArray, List.set_cons_zero, List.set_cons_succ]
            refine wpAnyH_take (i := 6) (oi := ⟨_, _, _, _, _, _⟩) (v := ?v42) rfl (by kernel_rfl) (by kernel_rfl) (by kernel_rfl) (fun _ _ _ h => h) (Or.inl ⟨by rfl, ?hy42⟩) (by assumption) ?_
            case hy42 => intro wq hSw; (try dsimp only at hSw); go_simp; (try with_reducible rfl)
            try simp only [Act.put, List.setIfInBounds_toArray, List.set_cons_zero, List.set_cons_succ]
            refine wpAnyH_take (i := 7) (oi := ⟨_, _, _, _, _, _⟩) (v := undef) rfl (by kernel_rfl) (by kernel_rfl) (by kernel_rfl) (fun _ _ _ h => h) (Or.inr ⟨by rfl, rfl⟩) (by assumption) ?_
            try simp only [Act.put, List.setIfInBounds_toArray, List.set_cons_zero, List.set_cons_succ]
            refine wpAnyH_take (i := 8) (oi := ⟨_, _, _, _, _, _⟩) (v := undef) rfl (by kernel_rfl) (by kernel_rfl) (by kernel_rfl) (fun _ _ _ h => h) (Or.inr ⟨by rfl, rfl⟩) (by assumption) ?_
            try simp only [Act.put, List.setIfInBounds_toArray, List.set_cons_zero, List.set_cons_succ]
            refine wpAnyH_take (i := 9) (oi := ⟨_, _, _, _, _, _⟩) (v := undef) rfl (by kernel_rfl) (by kernel_rfl) (by kernel_rfl) (fun _ _ _ h => h) (Or.inr ⟨by rfl, rfl⟩) (by assumption) ?_
            try simp only [Act.put, List.setIfInBounds_toArray, List.set_cons_zero, List.set_cons_succ]
            refine wpAnyH_take (i := 10) (oi := ⟨_, _, _, _, _, _⟩) (v := ?v46) rfl (by kernel_rfl) (by kernel_rfl) (by kernel_rfl) (fun _ _ _ h => h) (Or.inl ⟨by rfl, ?hy46⟩) (by assumption) ?_
            case hy46 => intro wq hSw; (try dsimp only at hSw); go_simp; (try with_reducible rfl)
            try simp only [Act.put, List.setIfInBounds_toArray, List.set_cons_zero, List.set_cons_succ]
            refine wpAnyH_take (i := 11) (oi := ⟨_, _, _, _, _, _⟩) (v := ?v47) rfl (by kernel_rfl) (by kernel_rfl) (by kernel_rfl) (fun _ _ _ h => h) (Or.inl ⟨by rfl, ?hy47⟩) (by assumption) ?_
            case hy47 => intro wq hSw; (try dsimp only at hSw); go_simp; (try with_reducible rfl)
            try simp only [Act.put, List.setIfInBounds_toArray, List.set_cons_zero, List.set_cons_succ]
            refine wpAnyH_take (i := 12) (oi := ⟨_, _, _, _, _, _⟩) (v := ?v48) rfl (by kernel_rfl) (by kernel_rfl) (by kernel_rfl) (fun _ _ _ h => h) (Or.inl ⟨by rfl, ?hy48⟩) (by assumption) ?_
            case hy48 => intro wq hSw; (try dsimp only at hSw); go_simp; (try with_reducible rfl)
            try simp only [Act.put, List.setIfInBounds_toArray, List.set_cons_zero, List.set_cons_succ]
            refine wpAnyH_take (i := 13) (oi := ⟨_, _, _, _, _, _⟩) (v := ?v49) rfl (by kernel_rfl) (by kernel_rfl) (by kernel_rfl) (fun _ _ _ h => h) (Or.inl ⟨by rfl, ?hy49⟩) (by assumption) ?_
            case hy49 => intro wq hSw; (try dsimp only at hSw); go_simp; (try with_reducible rfl)
            try simp only [Act.put, List.setIfInBounds_toArray, List.set_cons_zero, List.set_cons_succ]
            refine wpAnyH_take (i := 14) (oi := ⟨_, _, _, _, _, _⟩) (v := ?v50) rfl (by kernel_rfl) (by kernel_rfl) (by kernel_rfl) (fun _ _ _ h => h) (Or.inl ⟨by rfl, ?hy50⟩) (by assumption) ?_
            case hy50 => intro wq hSw; (try dsimp only at hSw); go_simp; (try with_reducible rfl)
            try simp only [Act.put, List.setIfInBounds_toArray, List.set_cons_zero, List.set_cons_succ]
            refine wpAnyH_take (i := 15) (oi := ⟨_, _, _, _, _, _⟩) (v := ?v51) rfl (by kernel_rfl) (by kernel_rfl) (by kernel_rfl) (fun _ _ _ h => h) (Or.inl ⟨by rfl, ?hy51⟩) (by assumption) ?_
            case hy51 => intro wq hSw; (try dsimp only at hSw); go_simp; (try with_reducible rfl)
            try simp only [Act.put, List.setIfInBounds_toArray, List.set_cons_zero, List.set_cons_succ]
            refine wpAnyH_take (i := 16) (oi := ⟨_, _, _, _, _, _⟩) (v := ?v52) rfl (by kernel_rfl) (by kernel_rfl) (by kernel_rfl) (fun _ _ _ h => h) (Or.inl ⟨by rfl, ?hy52⟩) (by assumption) ?_
            case hy52 => intro wq hSw; (try dsimp only at hSw); go_simp; (try with_reducible rfl)
            try simp only [Act.put, List.setIfInBounds_toArray, List.set_cons_zero, List.set_cons_succ]
            refine wpAnyH_take (i := 17) (oi := ⟨_, _, _, _, _, _⟩) (v := ?v53) rfl (by kernel_rfl) (by kernel_rfl) (by kernel_rfl) (fun _ _ _ h => h) (Or.inl ⟨by rfl, ?hy53⟩) (by assumption) ?_
            case hy53 => intro wq hSw; (try dsimp only at hSw); go_simp; (try with_reducible rfl)
            try simp only [Act.put, List.setIfInBounds_toArray, List.set_cons_zero, List.set_cons_succ]
            refine wpAnyH_take (i := 18) (oi := ⟨_, _, _, _, _, _⟩) (v := ?v54) rfl (by kernel_rfl) (by kernel_rfl) (by kernel_rfl) (fun _ _ _ h => h) (Or.inl ⟨by rfl, ?hy54⟩) (by assumption) ?_
            case hy54 => intro wq hSw; (try dsimp only at hSw); go_simp; (try with_reducible rfl)
            try simp only [Act.put, List.setIfInBounds_toArray, List.set_cons_zero, List.set_cons_succ]
            refine wpAnyH_ready (rs := [1, 19]) (by kernel_rfl) (by simp) ?_
            refine AllReadyH.cons (o := ⟨_, _, _, _, _, _⟩) rfl (fun K hK => ?_) (AllReadyH.cons (o := ⟨_, _, _, _, _, _⟩) rfl (fun K hK => ?_) AllReadyH.nil)
            · go_simp
              refine hK.out _ _ (by exact K0) (fun hHeld => ?_)
              clear hK K
              try simp only [Act.put, List.setIfInBounds_toArray, List.set_cons_zero, List.set_cons_succ]
              refine wpAnyH_ready (rs := [19]) (by kernel_rfl) (by simp) ?_
              refine AllReadyH.cons (o := ⟨_, _, _, _, _, _⟩) rfl (fun K hK => ?_) AllReadyH.nil
              go_simp
              (go_at_call 7; (with_reducible refine CC.out.mono ?_); rintro e w3 ⟨cs3, rfl, hs3, ho3, hS3, hb3⟩; have AF0 := AFT.out cs3 w3 ho3 hS3 hb3 hs3; clear hS3 hb3; obtain ⟨b0, b1, b2, b3, b4, b5, b6, b7, b8, b9, b10, b11, b12, b13, b14, b15, rfl⟩ := sixteen_of_size hs3; have H3 := hide ho3; have AF := hide AF0; have K1 := AF.out.1; have K2 := AF.out.2.1; have c73 := AF.out.2.2.1; have c74 := AF.out.2.2.2.1; clear AF0 ho3 hs3)
              try go_wp2_with fail
              refine hK.out _ _ (by exact K1) (fun hHeld => ?_)
              clear hK K
              try simp only [Act.put, List.setIfInBounds_toArray, List.set_cons_zero, List.set_cons_succ]
              refine wpAnyH_ready (rs := [20]) (by kernel_rfl) (by simp) ?_
              refine AllReadyH.cons (o := ⟨_, _, _, _, _, _⟩) rfl (fun K hK => ?_) AllReadyH.nil
              go_simp
              refine hK.out _ _ (by exact K2 _) (fun hHeld => ?_)
              clear hK K
              try simp only [Act.put, List.setIfInBounds_toArray, List.set_cons_zero, List.set_cons_succ]
              refine wpAnyH_ready (rs := [21]) (by kernel_rfl) (by simp) ?_
              refine AllReadyH.cons (o := ⟨_, _, _, _, _, _⟩) rfl (fun K hK => ?_) AllReadyH.nil
              (obtain ⟨hle3, css, k1, hcl⟩ := AF.out.2.2.2.2; refine step_append_lies _ rfl (.tmp 55) (.tmp 74) 31 rfl (w.heap.size + 3) 34 i0 (.agg zeroI) 16 192 Tryz.underlying31 hi0 hz0 hz1 hz2 rfl (by decide) _ j (flat css) rfl k1 ⟨w3.heap.size, 0, none⟩ 1 1 (#[b0, b1, b2, b3, b4, b5, b6, b7, b8, b9, b10, b11, b12, b13, b14, b15] : Array Value).toList rfl rfl (World.news_of_block (newB1 w3 _)) (one_mem H3.out) (by omega) (by unfold maxLen; omega) (by omega) (by rw [World.size_alloc']; omega) _ rfl ?_; intro g5 cap5 w5 hown5 hg5 hat5 hlt5; have D5 := hide (hcl g5 cap5 w5 hown5 hg5 hat5); have K5 := D5.out.1; have K6 := D5.out.2.1; have c75 := D5.out.2.2.1; have f75 := D5.out.2.2.2.1; clear hown5 hg5 hat5 hlt5 k1 hcl)
              refine hK.out _ _ (by exact K5) (fun hHeld => ?_)
              clear hK K
              try simp only [Act.put, List.setIfInBounds_toArray, List.set_cons_zero, List.set_cons_succ]
              refine wpAnyH_ready (rs := [22]) (by kernel_rfl) (by simp) ?_
              refine AllReadyH.cons (o := ⟨_, _, _, _, _, _⟩) rfl (fun K hK => ?_) AllReadyH.nil
              go_simp
              refine hK.out _ _ (by exact K5) (fun hHeld => ?_)
              clear hK K
              try simp only [Act.put, List.setIfInBounds_toArray, List.set_cons_zero, List.set_cons_succ]
              refine wpAnyH_ready (rs := [23]) (by kernel_rfl) (by simp) ?_
              refine AllReadyH.cons (o := ⟨_, _, _, _, _, _⟩) rfl (fun K hK => ?_) AllReadyH.nil
              go_simp
              refine hK.out _ _ (by exact K6 _) (fun hHeld => ?_)
              clear hK K
              try simp only [Act.put, List.setIfInBounds_toArray, List.set_cons_zero, List.set_cons_succ]
              refine wpAnyH_done (by kernel_rfl) ?_ _
              go_wp2
              go_roundw
              case rel => exact ⟨j + 1, _, xl ++ [xs j], by omega, by go_num, hide (snoc_get HX.out), hide D5.out.2.2.2.2⟩
              case measure => simp [intOf]; omega
            · go_simp
              (go_at_call 7; (with_reducible refine CC.out.mono ?_); rintro e w3 ⟨cs3, rfl, hs3, ho3, hS3, hb3⟩; have AF0 := AFT.out cs3 w3 ho3 hS3 hb3 hs3; clear hS3 hb3; obtain ⟨b0, b1, b2, b3, b4, b5, b6, b7, b8, b9, b10, b11, b12, b13, b14, b15, rfl⟩ := sixteen_of_size hs3; have H3 := hide ho3; have AF := hide AF0; have K1 := AF.out.1; have K2 := AF.out.2.1; have c73 := AF.out.2.2.1; have c74 := AF.out.2.2.2.1; clear AF0 ho3 hs3)
              try go_wp2_with fail
              refine hK.out _ _ (by exact K1) (fun hHeld => ?_)
              clear hK K
              try simp only [Act.put, List.setIfInBounds_toArray, List.set_cons_zero, List.set_cons_succ]
              refine wpAnyH_ready (rs := [1, 20]) (by kernel_rfl) (by simp) ?_
              refine AllReadyH.cons (o := ⟨_, _, _, _, _, _⟩) rfl (fun K hK => ?_) (AllReadyH.cons (o := ⟨_, _, _, _, _, _⟩) rfl (fun K hK => ?_) AllReadyH.nil)
              · go_simp
                refine hK.out _ _ (by exact K1) (fun hHeld => ?_)
                clear hK K
                try simp only [Act.put, List.setIfInBounds_toArray, List.set_cons_zero, List.set_cons_succ]
                refine wpAnyH_ready (rs := [20]) (by kernel_rfl) (by simp) ?_
                refine AllReadyH.cons (o := ⟨_, _, _, _, _, _⟩) rfl (fun K hK => ?_) AllReadyH.nil
                go_simp
                refine hK.out _ _ (by exact K2 _) (fun hHeld => ?_)
                clear hK K
                try simp only [Act.put, List.setIfInBounds_toArray, List.set_cons_zero, List.set_cons_succ]
                refine wpAnyH_ready (rs := [21]) (by kernel_rfl) (by simp) ?_
                refine AllReadyH.cons (o := ⟨_, _, _, _, _, _⟩) rfl (fun K hK => ?_) AllReadyH.nil
                (obtain ⟨hle3, css, k1, hcl⟩ := AF.out.2.2.2.2; refine step_append_lies _ rfl (.tmp 55) (.tmp 74) 31 rfl (w.heap.size + 3) 34 i0 (.agg zeroI) 16 192 Tryz.underlying31 hi0 hz0 hz1 hz2 rfl (by decide) _ j (flat css) rfl k1 ⟨w3.heap.size, 0, none⟩ 1 1 (#[b0, b1, b2, b3, b4, b5, b6, b7, b8, b9, b10, b11, b12, b13, b14, b15] : Array Value).toList rfl rfl (World.news_of_block (newB1 w3 _)) (one_mem H3.out) (by omega) (by unfold maxLen; omega) (by omega) (by rw [World.size_alloc']; omega) _ rfl ?_; intro g5 cap5 w5 hown5 hg5 hat5 hlt5; have D5 := hide (hcl g5 cap5 w5 hown5 hg5 hat5); have K5 := D5.out.1; have K6 := D5.out.2.1; have c75 := D5.out.2.2.1; have f75 := D5.out.2.2.2.1; clear hown5 hg5 hat5 hlt5 k1 hcl)
                refine hK.out _ _ (by exact K5) (fun hHeld => ?_)
                clear hK K
                try simp only [Act.put, List.setIfInBounds_toArray, List.set_cons_zero, List.set_cons_succ]
                refine wpAnyH_ready (rs := [22]) (by kernel_rfl) (by simp) ?_
                refine AllReadyH.cons (o := ⟨_, _, _, _, _, _⟩) rfl (fun K hK => ?_) AllReadyH.nil
                go_simp
                refine hK.out _ _ (by exact K5) (fun hHeld => ?_)
                clear hK K
                try simp only [Act.put, List.setIfInBounds_toArray, List.set_cons_zero, List.set_cons_succ]
                refine wpAnyH_ready (rs := [23]) (by kernel_rfl) (by simp) ?_
                refine AllReadyH.cons (o := ⟨_, _, _, _, _, _⟩) rfl (fun K hK => ?_) AllReadyH.nil
                go_simp
                refine hK.out _ _ (by exact K6 _) (fun hHeld => ?_)
                clear hK K
                try simp only [Act.put, List.setIfInBounds_toArray, List.set_cons_zero, List.set_cons_succ]
                refine wpAnyH_done (by kernel_rfl) ?_ _
                go_wp2
                go_roundw
                case rel => exact ⟨j + 1, _, xl ++ [xs j], by omega, by go_num, hide (snoc_get HX.out), hide D5.out.2.2.2.2⟩
                case measure => simp [intOf]; omega
              · go_simp
                refine hK.out _ _ (by exact K2 _) (fun hHeld => ?_)
                clear hK K
                try simp only [Act.put, List.setIfInBounds_toArray, List.set_cons_zero, List.set_cons_succ]
                refine wpAnyH_ready (rs := [1]) (by kernel_rfl) (by simp) ?_
                refine AllReadyH.cons (o := ⟨_, _, _, _, _, _⟩) rfl (fun K hK => ?_) AllReadyH.nil
                go_simp
                refine hK.out _ _ (by exact K2 _) (fun hHeld => ?_)
                clear hK K
                try simp only [Act.put, List.setIfInBounds_toArray, List.set_cons_zero, List.set_cons_succ]
                refine wpAnyH_ready (rs := [21]) (by kernel_rfl) (by simp) ?_
                refine AllReadyH.cons (o := ⟨_, _, _, _, _, _⟩) rfl (fun K hK => ?_) AllReadyH.nil
                (obtain ⟨hle3, css, k1, hcl⟩ := AF.out.2.2.2.2; refine step_append_lies _ rfl (.tmp 55) (.tmp 74) 31 rfl (w.heap.size + 3) 34 i0 (.agg zeroI) 16 192 Tryz.underlying31 hi0 hz0 hz1 hz2 rfl (by decide) _ j (flat css) rfl k1 ⟨w3.heap.size, 0, none⟩ 1 1 (#[b0, b1, b2, b3, b4, b5, b6, b7, b8, b9, b10, b11, b12, b13, b14, b15] : Array Value).toList rfl rfl (World.news_of_block (newB1 w3 _)) (one_mem H3.out) (by omega) (by unfold maxLen; omega) (by omega) (by rw [World.size_alloc']; omega) _ rfl ?_; intro g5 cap5 w5 hown5 hg5 hat5 hlt5; have D5 := hide (hcl g5 cap5 w5 hown5 hg5 hat5); have K5 := D5.out.1; have K6 := D5.out.2.1; have c75 := D5.out.2.2.1; have f75 := D5.out.2.2.2.1; clear hown5 hg5 hat5 hlt5 k1 hcl)
                refine hK.out _ _ (by exact K5) (fun hHeld => ?_)
                clear hK K
                try simp only [Act.put, List.setIfInBounds_toArray, List.set_cons_zero, List.set_cons_succ]
                refine wpAnyH_ready (rs := [22]) (by kernel_rfl) (by simp) ?_
                refine AllReadyH.cons (o := ⟨_, _, _, _, _, _⟩) rfl (fun K hK => ?_) AllReadyH.nil
                go_simp
                refine hK.out _ _ (by exact K5) (fun hHeld => ?_)
                clear hK K
                try simp only [Act.put, List.setIfInBounds_toArray, List.set_cons_zero, List.set_cons_succ]
                refine wpAnyH_ready (rs := [23]) (by kernel_rfl) (by simp) ?_
                refine AllReadyH.cons (o := ⟨_, _, _, _, _, _⟩) rfl (fun K hK => ?_) AllReadyH.nil
                go_simp
                refine hK.out _ _ (by exact K6 _) (fun hHeld => ?_)
                clear hK K
                try simp only [Act.put, List.setIfInBounds_toArray, List.set_cons_zero, List.set_cons_succ]
                refine wpAnyH_done (by kernel_rfl) ?_ _
                go_wp2
                go_roundw
                case rel => exact ⟨j + 1, _, xl ++ [xs j], by omega, by go_num, hide (snoc_get HX.out), hide D5.out.2.2.2.2⟩
                case measure => simp [intOf]; omega
          · have k4 : (k == 4) = false := by rw [beq_eq_false_iff_ne]; exact h4
            have hg : kidG k l true = false := by rw [hguard.out, k3, k4]; simp
            rw [hg] at CC
            clear hg hguard
            refine wp_region_held_drew (S := fun w' => (w'.cell? ⟨w.heap.size, 0, none⟩ = some (.int .i64 k) ∧ w'.cell? ⟨w.heap.size, 5, none⟩ = some (.bool l)) ∧ ∀ q, w'.cell? ⟨wr.heap.size, q, none⟩ = (#[a0, a1, a2, a3, a4, a5, a6, a7, a8, a9] : Array Value)[q]?) (by kernel_rfl) K0 (fun hHeld => ?_)
            refine wpAnyH_take (i := 0) (oi := ⟨_, _, _, _, _, _⟩) (v := ?v55) rfl (by kernel_rfl) (by kernel_rfl) (by kernel_rfl) (fun _ _ _ h => h) (Or.inl ⟨by rfl, ?hy55⟩) (by assumption) ?_
            case hy55 => intro wq hSw; (try dsimp only at hSw); go_simp; (try with_reducible rfl)
            try simp only [Act.put, List.setIfInBounds_toArray, List.set_cons_zero, List.set_cons_succ]
            refine wpAnyH_take (i := 2) (oi := ⟨_, _, _, _, _, _⟩) (v := ?v56) rfl (by kernel_rfl) (by kernel_rfl) (by kernel_rfl) (fun _ _ _ h => h) (Or.inl ⟨by rfl, ?hy56⟩) (by assumption) ?_
            case hy56 => intro wq hSw; (try dsimp only at hSw); go_simp; (try with_reducible rfl)
            try simp only [Act.put, List.setIfInBounds_toArray, List.set_cons_zero, List.set_cons_succ]
            refine wpAnyH_take (i := 3) (oi := ⟨_, _, _, _, _, _⟩) (v := ?v57) rfl (by kernel_rfl) (by kernel_rfl) (by kernel_rfl) (fun _ _ _ h => h) (Or.inl ⟨by rfl, ?hy57⟩) (by assumption) ?_
            case hy57 => intro wq hSw; (try dsimp only at hSw); go_simp; (try with_reducible rfl)
            try simp only [Act.put, List.setIfInBounds_toArray, List.set_cons_zero, List.set_cons_succ]
            refine wpAnyH_take (i := 4) (oi := ⟨_, _, _, _, _, _⟩) (v := ?v58) rfl (by kernel_rfl) (by kernel_rfl) (by kernel_rfl) (fun _ _ _ h => h) (Or.inl ⟨by rfl, ?hy58⟩) (by assumption) ?_
            case hy58 => intro wq hSw; (try dsimp only at hSw); go_simp; (try with_reducible rfl)
            try simp only [Act.put, List.setIfInBounds_toArray, List.set_cons_zero, List.set_cons_succ]
            refine wpAnyH_take (i := 5) (oi := ⟨_, _, _, _, _, _⟩) (v := ?v59) rfl (by kernel_rfl) (by kernel_rfl) (by kernel_rfl) (fun _ _ _ h => h) (Or.inl ⟨by rfl, ?hy59⟩) (by assumption) ?_
            case hy59 => intro wq hSw; (try dsimp only at hSw); go_simp; (try with_reducible rfl)
            try simp only [Act.put, List.setIfInBounds_toArray, List.set_cons_zero, List.set_cons_succ]
            refine wpAnyH_take (i := 6) (oi := ⟨_, _, _, _, _, _⟩) (v := ?v60) rfl (by kernel_rfl) (by kernel_rfl) (by kernel_rfl) (fun _ _ _ h => h) (Or.inl ⟨by rfl, ?hy60⟩) (by assumption) ?_
            case hy60 => intro wq hSw; (try dsimp only at hSw); go_simp; (try with_reducible rfl)
            try simp only [Act.put, List.setIfInBounds_toArray, List.set_cons_zero, List.set_cons_succ]
            refine wpAnyH_take (i := 7) (oi := ⟨_, _, _, _, _, _⟩) (v := undef) rfl (by kernel_rfl) (by kernel_rfl) (by kernel_rfl) (fun _ _ _ h => h) (Or.inr ⟨by rfl, rfl⟩) (by assumption) ?_
            try simp only [Act.put, List.setIfInBounds_toArray, List.set_cons_zero, List.set_cons_succ]
            refine wpAnyH_take (i := 8) (oi := ⟨_, _, _, _, _, _⟩) (v := undef) rfl (by kernel_rfl) (by kernel_rfl) (by kernel_rfl) (fun _ _ _ h => h) (Or.inr ⟨by rfl, rfl⟩) (by assumption) ?_
            try simp only [Act.put, List.setIfInBounds_toArray, List.set_cons_zero, List.set_cons_succ]
            refine wpAnyH_take (i := 9) (oi := ⟨_, _, _, _, _, _⟩) (v := undef) rfl (by kernel_rfl) (by kernel_rfl) (by kernel_rfl) (fun _ _ _ h => h) (Or.inr ⟨by rfl, rfl⟩) (by assumption) ?_
            try simp only [Act.put, List.setIfInBounds_toArray, List.set_cons_zero, List.set_cons_succ]
            refine wpAnyH_take (i := 10) (oi := ⟨_, _, _, _, _, _⟩) (v := ?v64) rfl (by kernel_rfl) (by kernel_rfl) (by kernel_rfl) (fun _ _ _ h => h) (Or.inl ⟨by rfl, ?hy64⟩) (by assumption) ?_
            case hy64 => intro wq hSw; (try dsimp only at hSw); go_simp; (try with_reducible rfl)
            try simp only [Act.put, List.setIfInBounds_toArray, List.set_cons_zero, List.set_cons_succ]
            refine wpAnyH_take (i := 11) (oi := ⟨_, _, _, _, _, _⟩) (v := ?v65) rfl (by kernel_rfl) (by kernel_rfl) (by kernel_rfl) (fun _ _ _ h => h) (Or.inl ⟨by rfl, ?hy65⟩) (by assumption) ?_
            case hy65 => intro wq hSw; (try dsimp only at hSw); go_simp; (try with_reducible rfl)
            try simp only [Act.put, List.setIfInBounds_toArray, List.set_cons_zero, List.set_cons_succ]
            refine wpAnyH_take (i := 12) (oi := ⟨_, _, _, _, _, _⟩) (v := ?v66) rfl (by kernel_rfl) (by kernel_rfl) (by kernel_rfl) (fun _ _ _ h => h) (Or.inl ⟨by rfl, ?hy66⟩) (by assumption) ?_
            case hy66 => intro wq hSw; (try dsimp only at hSw); go_simp; (try with_reducible rfl)
            try simp only [Act.put, List.setIfInBounds_toArray, List.set_cons_zero, List.set_cons_succ]
            refine wpAnyH_take (i := 13) (oi := ⟨_, _, _, _, _, _⟩) (v := ?v67) rfl (by kernel_rfl) (by kernel_rfl) (by kernel_rfl) (fun _ _ _ h => h) (Or.inl ⟨by rfl, ?hy67⟩) (by assumption) ?_
            case hy67 => intro wq hSw; (try dsimp only at hSw); go_simp; (try with_reducible rfl)
            try simp only [Act.put, List.setIfInBounds_toArray, List.set_cons_zero, List.set_cons_succ]
            refine wpAnyH_take (i := 14) (oi := ⟨_, _, _, _, _, _⟩) (v := ?v68) rfl (by kernel_rfl) (by kernel_rfl) (by kernel_rfl) (fun _ _ _ h => h) (Or.inl ⟨by rfl, ?hy68⟩) (by assumption) ?_
            case hy68 => intro wq hSw; (try dsimp only at hSw); go_simp; (try with_reducible rfl)
            try simp only [Act.put, List.setIfInBounds_toArray, List.set_cons_zero, List.set_cons_succ]
            refine wpAnyH_take (i := 15) (oi := ⟨_, _, _, _, _, _⟩) (v := ?v69) rfl (by kernel_rfl) (by kernel_rfl) (by kernel_rfl) (fun _ _ _ h => h) (Or.inl ⟨by rfl, ?hy69⟩) (by assumption) ?_
            case hy69 => intro wq hSw; (try dsimp only at hSw); go_simp; (try with_reducible rfl)
            try simp only [Act.put, List.setIfInBounds_toArray, List.set_cons_zero, List.set_cons_succ]
            refine wpAnyH_take (i := 16) (oi := ⟨_, _, _, _, _, _⟩) (v := ?v70) rfl (by kernel_rfl) (by kernel_rfl) (by kernel_rfl) (fun _ _ _ h => h) (Or.inl ⟨by rfl, ?hy70⟩) (by assumption) ?_
            case hy70 => intro wq hSw; (try dsimp only at hSw); go_simp; (try with_reducible rfl)
            try simp only [Act.put, List.setIfInBounds_toArray, List.set_cons_zero, List.set_cons_succ]
            refine wpAnyH_take (i := 17) (oi := ⟨_, _, _, _, _, _⟩) (v := ?v71) rfl (by kernel_rfl) (by kernel_rfl) (by kernel_rfl) (fun _ _ _ h => h) (Or.inl ⟨by rfl, ?hy71⟩) (by assumption) ?_
            case hy71 => intro wq hSw; (try dsimp only at hSw); go_simp; (try with_reducible rfl)
            try simp only [Act.put, List.setIfInBounds_toArray, List.set_cons_zero, List.set_cons_succ]
            refine wpAnyH_take (i := 18) (oi := ⟨_, _, _, _, _, _⟩) (v := ?v72) rfl (by kernel_rfl) (by kernel_rfl) (by kernel_rfl) (fun _ _ _ h => h) (Or.inl ⟨by rfl, ?hy72⟩) (by assumption) ?_
            case hy72 => intro wq hSw; (try dsimp only at hSw); go_simp; (try with_reducible rfl)
            try simp only [Act.put, List.setIfInBounds_toArray, List.set_cons_zero, List.set_cons_succ]
            refine wpAnyH_ready (rs := [1, 19]) (by kernel_rfl) (by simp) ?_
            refine AllReadyH.cons (o := ⟨_, _, _, _, _, _⟩) rfl (fun K hK => ?_) (AllReadyH.cons (o := ⟨_, _, _, _, _, _⟩) rfl (fun K hK => ?_) AllReadyH.nil)
            · go_simp
              refine hK.out _ _ (by exact K0) (fun hHeld => ?_)
              clear hK K
              try simp only [Act.put, List.setIfInBounds_toArray, List.set_cons_zero, List.set_cons_succ]
              refine wpAnyH_ready (rs := [19]) (by kernel_rfl) (by simp) ?_
              refine AllReadyH.cons (o := ⟨_, _, _, _, _, _⟩) rfl (fun K hK => ?_) AllReadyH.nil
              go_simp
              (go_at_call 7; (with_reducible refine CC.out.mono ?_); rintro e w3 ⟨cs3, rfl, hs3, ho3, hS3, hb3⟩; have AF0 := AFT.out cs3 w3 ho3 hS3 hb3 hs3; clear hS3 hb3; obtain ⟨b0, b1, b2, b3, b4, b5, b6, b7, b8, b9, b10, b11, b12, b13, b14, b15, rfl⟩ := sixteen_of_size hs3; have H3 := hide ho3; have AF := hide AF0; have K1 := AF.out.1; have K2 := AF.out.2.1; have c73 := AF.out.2.2.1; have c74 := AF.out.2.2.2.1; clear AF0 ho3 hs3)
              try go_wp2_with fail
              refine hK.out _ _ (by exact K1) (fun hHeld => ?_)
              clear hK K
              try simp only [Act.put, List.setIfInBounds_toArray, List.set_cons_zero, List.set_cons_succ]
              refine wpAnyH_ready (rs := [20]) (by kernel_rfl) (by simp) ?_
              refine AllReadyH.cons (o := ⟨_, _, _, _, _, _⟩) rfl (fun K hK => ?_) AllReadyH.nil
              go_simp
              refine hK.out _ _ (by exact K2 _) (fun hHeld => ?_)
              clear hK K
              try simp only [Act.put, List.setIfInBounds_toArray, List.set_cons_zero, List.set_cons_succ]
              refine wpAnyH_ready (rs := [21]) (by kernel_rfl) (by simp) ?_
              refine AllReadyH.cons (o := ⟨_, _, _, _, _, _⟩) rfl (fun K hK => ?_) AllReadyH.nil
              (obtain ⟨hle3, css, k1, hcl⟩ := AF.out.2.2.2.2; refine step_append_lies _ rfl (.tmp 55) (.tmp 74) 31 rfl (w.heap.size + 3) 34 i0 (.agg zeroI) 16 192 Tryz.underlying31 hi0 hz0 hz1 hz2 rfl (by decide) _ j (flat css) rfl k1 ⟨w3.heap.size, 0, none⟩ 1 1 (#[b0, b1, b2, b3, b4, b5, b6, b7, b8, b9, b10, b11, b12, b13, b14, b15] : Array Value).toList rfl rfl (World.news_of_block (newB1 w3 _)) (one_mem H3.out) (by omega) (by unfold maxLen; omega) (by omega) (by rw [World.size_alloc']; omega) _ rfl ?_; intro g5 cap5 w5 hown5 hg5 hat5 hlt5; have D5 := hide (hcl g5 cap5 w5 hown5 hg5 hat5); have K5 := D5.out.1; have K6 := D5.out.2.1; have c75 := D5.out.2.2.1; have f75 := D5.out.2.2.2.1; clear hown5 hg5 hat5 hlt5 k1 hcl)
              refine hK.out _ _ (by exact K5) (fun hHeld => ?_)
              clear hK K
              try simp only [Act.put, List.setIfInBounds_toArray, List.set_cons_zero, List.set_cons_succ]
              refine wpAnyH_ready (rs := [22]) (by kernel_rfl) (by simp) ?_
              refine AllReadyH.cons (o := ⟨_, _, _, _, _, _⟩) rfl (fun K hK => ?_) AllReadyH.nil
              go_simp
              refine hK.out _ _ (by exact K5) (fun hHeld => ?_)
              clear hK K
              try simp only [Act.put, List.setIfInBounds_toArray, List.set_cons_zero, List.set_cons_succ]
              refine wpAnyH_ready (rs := [23]) (by kernel_rfl) (by simp) ?_
              refine AllReadyH.cons (o := ⟨_, _, _, _, _, _⟩) rfl (fun K hK => ?_) AllReadyH.nil
              go_simp
              refine hK.out _ _ (by exact K6 _) (fun hHeld => ?_)
              clear hK K
              try simp only [Act.put, List.setIfInBounds_toArray, List.set_cons_zero, List.set_cons_succ]
              refine wpAnyH_done (by kernel_rfl) ?_ _
              go_wp2
              go_roundw
              case rel => exact ⟨j + 1, _, xl ++ [xs j], by omega, by go_num, hide (snoc_get HX.out), hide D5.out.2.2.2.2⟩
              case measure => simp [intOf]; omega
            · go_simp
              (go_at_call 7; (with_reducible refine CC.out.mono ?_); rintro e w3 ⟨cs3, rfl, hs3, ho3, hS3, hb3⟩; have AF0 := AFT.out cs3 w3 ho3 hS3 hb3 hs3; clear hS3 hb3; obtain ⟨b0, b1, b2, b3, b4, b5, b6, b7, b8, b9, b10, b11, b12, b13, b14, b15, rfl⟩ := sixteen_of_size hs3; have H3 := hide ho3; have AF := hide AF0; have K1 := AF.out.1; have K2 := AF.out.2.1; have c73 := AF.out.2.2.1; have c74 := AF.out.2.2.2.1; clear AF0 ho3 hs3)
              try go_wp2_with fail
              refine hK.out _ _ (by exact K1) (fun hHeld => ?_)
              clear hK K
              try simp only [Act.put, List.setIfInBounds_toArray, List.set_cons_zero, List.set_cons_succ]
              refine wpAnyH_ready (rs := [1, 20]) (by kernel_rfl) (by simp) ?_
              refine AllReadyH.cons (o := ⟨_, _, _, _, _, _⟩) rfl (fun K hK => ?_) (AllReadyH.cons (o := ⟨_, _, _, _, _, _⟩) rfl (fun K hK => ?_) AllReadyH.nil)
              · go_simp
                refine hK.out _ _ (by exact K1) (fun hHeld => ?_)
                clear hK K
                try simp only [Act.put, List.setIfInBounds_toArray, List.set_cons_zero, List.set_cons_succ]
                refine wpAnyH_ready (rs := [20]) (by kernel_rfl) (by simp) ?_
                refine AllReadyH.cons (o := ⟨_, _, _, _, _, _⟩) rfl (fun K hK => ?_) AllReadyH.nil
                go_simp
                refine hK.out _ _ (by exact K2 _) (fun hHeld => ?_)
                clear hK K
                try simp only [Act.put, List.setIfInBounds_toArray, List.set_cons_zero, List.set_cons_succ]
                refine wpAnyH_ready (rs := [21]) (by kernel_rfl) (by simp) ?_
                refine AllReadyH.cons (o := ⟨_, _, _, _, _, _⟩) rfl (fun K hK => ?_) AllReadyH.nil
                (obtain ⟨hle3, css, k1, hcl⟩ := AF.out.2.2.2.2; refine step_append_lies _ rfl (.tmp 55) (.tmp 74) 31 rfl (w.heap.size + 3) 34 i0 (.agg zeroI) 16 192 Tryz.underlying31 hi0 hz0 hz1 hz2 rfl (by decide) _ j (flat css) rfl k1 ⟨w3.heap.size, 0, none⟩ 1 1 (#[b0, b1, b2, b3, b4, b5, b6, b7, b8, b9, b10, b11, b12, b13, b14, b15] : Array Value).toList rfl rfl (World.news_of_block (newB1 w3 _)) (one_mem H3.out) (by omega) (by unfold maxLen; omega) (by omega) (by rw [World.size_alloc']; omega) _ rfl ?_; intro g5 cap5 w5 hown5 hg5 hat5 hlt5; have D5 := hide (hcl g5 cap5 w5 hown5 hg5 hat5); have K5 := D5.out.1; have K6 := D5.out.2.1; have c75 := D5.out.2.2.1; have f75 := D5.out.2.2.2.1; clear hown5 hg5 hat5 hlt5 k1 hcl)
                refine hK.out _ _ (by exact K5) (fun hHeld => ?_)
                clear hK K
                try simp only [Act.put, List.setIfInBounds_toArray, List.set_cons_zero, List.set_cons_succ]
                refine wpAnyH_ready (rs := [22]) (by kernel_rfl) (by simp) ?_
                refine AllReadyH.cons (o := ⟨_, _, _, _, _, _⟩) rfl (fun K hK => ?_) AllReadyH.nil
                go_simp
                refine hK.out _ _ (by exact K5) (fun hHeld => ?_)
                clear hK K
                try simp only [Act.put, List.setIfInBounds_toArray, List.set_cons_zero, List.set_cons_succ]
                refine wpAnyH_ready (rs := [23]) (by kernel_rfl) (by simp) ?_
                refine AllReadyH.cons (o := ⟨_, _, _, _, _, _⟩) rfl (fun K hK => ?_) AllReadyH.nil
                go_simp
                refine hK.out _ _ (by exact K6 _) (fun hHeld => ?_)
                clear hK K
                try simp only [Act.put, List.setIfInBounds_toArray, List.set_cons_zero, List.set_cons_succ]
                refine wpAnyH_done (by kernel_rfl) ?_ _
                go_wp2
                go_roundw
                case rel => exact ⟨j + 1, _, xl ++ [xs j], by omega, by go_num, hide (snoc_get HX.out), hide D5.out.2.2.2.2⟩
                case measure => simp [intOf]; omega
              · go_simp
                refine hK.out _ _ (by exact K2 _) (fun hHeld => ?_)
                clear hK K
                try simp only [Act.put, List.setIfInBounds_toArray, List.set_cons_zero, List.set_cons_succ]
                refine wpAnyH_ready (rs := [1]) (by kernel_rfl) (by simp) ?_
                refine AllReadyH.cons (o := ⟨_, _, _, _, _, _⟩) rfl (fun K hK => ?_) AllReadyH.nil
                go_simp
                refine hK.out _ _ (by exact K2 _) (fun hHeld => ?_)
                clear hK K
                try simp only [Act.put, List.setIfInBounds_toArray, List.set_cons_zero, List.set_cons_succ]
                refine wpAnyH_ready (rs := [21]) (by kernel_rfl) (by simp) ?_
                refine AllReadyH.cons (o := ⟨_, _, _, _, _, _⟩) rfl (fun K hK => ?_) AllReadyH.nil
                (obtain ⟨hle3, css, k1, hcl⟩ := AF.out.2.2.2.2; refine step_append_lies _ rfl (.tmp 55) (.tmp 74) 31 rfl (w.heap.size + 3) 34 i0 (.agg zeroI) 16 192 Tryz.underlying31 hi0 hz0 hz1 hz2 rfl (by decide) _ j (flat css) rfl k1 ⟨w3.heap.size, 0, none⟩ 1 1 (#[b0, b1, b2, b3, b4, b5, b6, b7, b8, b9, b10, b11, b12, b13, b14, b15] : Array Value).toList rfl rfl (World.news_of_block (newB1 w3 _)) (one_mem H3.out) (by omega) (by unfold maxLen; omega) (by omega) (by rw [World.size_alloc']; omega) _ rfl ?_; intro g5 cap5 w5 hown5 hg5 hat5 hlt5; have D5 := hide (hcl g5 cap5 w5 hown5 hg5 hat5); have K5 := D5.out.1; have K6 := D5.out.2.1; have c75 := D5.out.2.2.1; have f75 := D5.out.2.2.2.1; clear hown5 hg5 hat5 hlt5 k1 hcl)
                refine hK.out _ _ (by exact K5) (fun hHeld => ?_)
                clear hK K
                try simp only [Act.put, List.setIfInBounds_toArray, List.set_cons_zero, List.set_cons_succ]
                refine wpAnyH_ready (rs := [22]) (by kernel_rfl) (by simp) ?_
                refine AllReadyH.cons (o := ⟨_, _, _, _, _, _⟩) rfl (fun K hK => ?_) AllReadyH.nil
                go_simp
                refine hK.out _ _ (by exact K5) (fun hHeld => ?_)
                clear hK K
                try simp only [Act.put, List.setIfInBounds_toArray, List.set_cons_zero, List.set_cons_succ]
                refine wpAnyH_ready (rs := [23]) (by kernel_rfl) (by simp) ?_
                refine AllReadyH.cons (o := ⟨_, _, _, _, _, _⟩) rfl (fun K hK => ?_) AllReadyH.nil
                go_simp
                refine hK.out _ _ (by exact K6 _) (fun hHeld => ?_)
                clear hK K
                try simp only [Act.put, List.setIfInBounds_toArray, List.set_cons_zero, List.set_cons_succ]
                refine wpAnyH_done (by kernel_rfl) ?_ _
                go_wp2
                go_roundw
                case rel => exact ⟨j + 1, _, xl ++ [xs j], by omega, by go_num, hide (snoc_get HX.out), hide D5.out.2.2.2.2⟩
                case measure => simp [intOf]; omega
      | false =>
        by_cases h3 : k = 3
        · have k3 : (k == 3) = true := by rw [h3]; rfl
          cases l with
          | true =>
            have hg : kidG k true false = false := by rw [hguard.out, k3]; simp
            rw [hg] at CC
            clear hg hguard h3
            refine wp_region_held_drew (S := fun w' => (w'.cell? ⟨w.heap.size, 0, none⟩ = some (.int .i64 k) ∧ w'.cell? ⟨w.heap.size, 5, none⟩ = some (.bool true)) ∧ ∀ q, w'.cell? ⟨wr.heap.size, q, none⟩ = (#[a0, a1, a2, a3, a4, a5, a6, a7, a8, a9] : Array Value)[q]?) (by kernel_rfl) K0 (fun hHeld => ?_)
            refine wpAnyH_take (i := 0) (oi := ⟨_, _, _, _, _, _⟩) (v := ?v73) rfl (by kernel_rfl) (by kernel_rfl) (by kernel_rfl) (fun _ _ _ h => h) (Or.inl ⟨by rfl, ?hy73⟩) (by assumption) ?_
            case hy73 => intro wq hSw; (try dsimp only at hSw); go_simp; (try with_reducible rfl)
            try simp only [Act.put, List.setIfInBounds_toArray, List.set_cons_zero, List.set_cons_succ]
            refine wpAnyH_take (i := 2) (oi := ⟨_, _, _, _, _, _⟩) (v := ?v74) rfl (by kernel_rfl) (by kernel_rfl) (by kernel_rfl) (fun _ _ _ h => h) (Or.inl ⟨by rfl, ?hy74⟩) (by assumption) ?_
            case hy74 => intro wq hSw; (try dsimp only at hSw); go_simp; (try with_reducible rfl)
            try simp only [Act.put, List.setIfInBounds_toArray, List.set_cons_zero, List.set_cons_succ]
            refine wpAnyH_take (i := 3) (oi := ⟨_, _, _, _, _, _⟩) (v := ?v75) rfl (by kernel_rfl) (by kernel_rfl) (by kernel_rfl) (fun _ _ _ h => h) (Or.inl ⟨by rfl, ?hy75⟩) (by assumption) ?_
            case hy75 => intro wq hSw; (try dsimp only at hSw); go_simp; (try with_reducible rfl)
            try simp only [Act.put, List.setIfInBounds_toArray, List.set_cons_zero, List.set_cons_succ]
            refine wpAnyH_take (i := 4) (oi := ⟨_, _, _, _, _, _⟩) (v := ?v76) rfl (by kernel_rfl) (by kernel_rfl) (by kernel_rfl) (fun _ _ _ h => h) (Or.inl ⟨by rfl, ?hy76⟩) (by assumption) ?_
            case hy76 => intro wq hSw; (try dsimp only at hSw); go_simp; (try with_reducible rfl)
            try simp only [Act.put, List.setIfInBounds_toArray, List.set_cons_zero, List.set_cons_succ]
            refine wpAnyH_take (i := 5) (oi := ⟨_, _, _, _, _, _⟩) (v := ?v77) rfl (by kernel_rfl) (by kernel_rfl) (by kernel_rfl) (fun _ _ _ h => h) (Or.inl ⟨by rfl, ?hy77⟩) (by assumption) ?_
            case hy77 => intro wq hSw; (try dsimp only at hSw); go_simp; (try with_reducible rfl)
            try simp only [Act.put, List.setIfInBounds_toArray, List.set_cons_zero, List.set_cons_succ]
            refine wpAnyH_take (i := 6) (oi := ⟨_, _, _, _, _, _⟩) (v := ?v78) rfl (by kernel_rfl) (by kernel_rfl) (by kernel_rfl) (fun _ _ _ h => h) (Or.inl ⟨by rfl, ?hy78⟩) (by assumption) ?_
            case hy78 => intro wq hSw; (try dsimp only at hSw); go_simp; (try with_reducible rfl)
            try simp only [Act.put, List.setIfInBounds_toArray, List.set_cons_zero, List.set_cons_succ]
            refine wpAnyH_take (i := 7) (oi := ⟨_, _, _, _, _, _⟩) (v := ?v79) rfl (by kernel_rfl) (by kernel_rfl) (by kernel_rfl) (fun _ _ _ h => h) (Or.inl ⟨by rfl, ?hy79⟩) (by assumption) ?_
            case hy79 => intro wq hSw; (try dsimp only at hSw); go_simp; (try with_reducible rfl)
            try simp only [Act.put, List.setIfInBounds_toArray, List.set_cons_zero, List.set_cons_succ]
            refine wpAnyH_take (i := 8) (oi := ⟨_, _, _, _, _, _⟩) (v := ?v80) rfl (by kernel_rfl) (by kernel_rfl) (by kernel_rfl) (fun _ _ _ h => h) (Or.inl ⟨by rfl, ?hy80⟩) (by assumption) ?_
            case hy80 => intro wq hSw; (try dsimp only at hSw); go_simp; (try with_reducible rfl)
            try simp only [Act.put, List.setIfInBounds_toArray, List.set_cons_zero, List.set_cons_succ]
            refine wpAnyH_take (i := 9) (oi := ⟨_, _, _, _, _, _⟩) (v := ?v81) rfl (by kernel_rfl) (by kernel_rfl) (by kernel_rfl) (fun _ _ _ h => h) (Or.inl ⟨by rfl, ?hy81⟩) (by assumption) ?_
            case hy81 => intro wq hSw; (try dsimp only at hSw); go_simp; (try with_reducible rfl)
            try simp only [Act.put, List.setIfInBounds_toArray, List.set_cons_zero, List.set_cons_succ]
            refine wpAnyH_take (i := 10) (oi := ⟨_, _, _, _, _, _⟩) (v := ?v82) rfl (by kernel_rfl) (by kernel_rfl) (by kernel_rfl) (fun _ _ _ h => h) (Or.inl ⟨by rfl, ?hy82⟩) (by assumption) ?_
            case hy82 => intro wq hSw; (try dsimp only at hSw); go_simp; (try with_reducible rfl)
            try simp only [Act.put, List.setIfInBounds_toArray, List.set_cons_zero, List.set_cons_succ]
            refine wpAnyH_take (i := 11) (oi := ⟨_, _, _, _, _, _⟩) (v := ?v83) rfl (by kernel_rfl) (by kernel_rfl) (by kernel_rfl) (fun _ _ _ h => h) (Or.inl ⟨by rfl, ?hy83⟩) (by assumption) ?_
            case hy83 => intro wq hSw; (try dsimp only at hSw); go_simp; (try with_reducible rfl)
            try simp only [Act.put, List.setIfInBounds_toArray, List.set_cons_zero, List.set_cons_succ]
            refine wpAnyH_take (i := 12) (oi := ⟨_, _, _, _, _, _⟩) (v := ?v84) rfl (by kernel_rfl) (by kernel_rfl) (by kernel_rfl) (fun _ _ _ h => h) (Or.inl ⟨by rfl, ?hy84⟩) (by assumption) ?_
            case hy84 => intro wq hSw; (try dsimp only at hSw); go_simp; (try with_reducible rfl)
            try simp only [Act.put, List.setIfInBounds_toArray, List.set_cons_zero, List.set_cons_succ]
            refine wpAnyH_take (i := 13) (oi := ⟨_, _, _, _, _, _⟩) (v := ?v85) rfl (by kernel_rfl) (by kernel_rfl) (by kernel_rfl) (fun _ _ _ h => h) (Or.inl ⟨by rfl, ?hy85⟩) (by assumption) ?_
            case hy85 => intro wq hSw; (try dsimp only at hSw); go_simp; (try with_reducible rfl)
            try simp only [Act.put, List.setIfInBounds_toArray, List.set_cons_zero, List.set_cons_succ]
            refine wpAnyH_take (i := 14) (oi := ⟨_, _, _, _, _, _⟩) (v := undef) rfl (by kernel_rfl) (by kernel_rfl) (by kernel_rfl) (fun _ _ _ h => h) (Or.inr ⟨by rfl, rfl⟩) (by assumption) ?_
            try simp only [Act.put, List.setIfInBounds_toArray, List.set_cons_zero, List.set_cons_succ]
            refine wpAnyH_take (i := 15) (oi := ⟨_, _, _, _, _, _⟩) (v := undef) rfl (by kernel_rfl) (by kernel_rfl) (by kernel_rfl) (fun _ _ _ h => h) (Or.inr ⟨by rfl, rfl⟩) (by assumption) ?_
            try simp only [Act.put, List.setIfInBounds_toArray, List.set_cons_zero, List.set_cons_succ]
            refine wpAnyH_take (i := 16) (oi := ⟨_, _, _, _, _, _⟩) (v := undef) rfl (by kernel_rfl) (by kernel_rfl) (by kernel_rfl) (fun _ _ _ h => h) (Or.inr ⟨by rfl, rfl⟩) (by assumption) ?_
            try simp only [Act.put, List.setIfInBounds_toArray, List.set_cons_zero, List.set_cons_succ]
            refine wpAnyH_take (i := 17) (oi := ⟨_, _, _, _, _, _⟩) (v := ?v89) rfl (by kernel_rfl) (by kernel_rfl) (by kernel_rfl) (fun _ _ _ h => h) (Or.inl ⟨by rfl, ?hy89⟩) (by assumption) ?_
            case hy89 => intro wq hSw; (try dsimp only at hSw); go_simp; (try with_reducible rfl)
            try simp only [Act.put, List.setIfInBounds_toArray, List.set_cons_zero, List.set_cons_succ]
            refine wpAnyH_take (i := 18) (oi := ⟨_, _, _, _, _, _⟩) (v := ?v90) rfl (by kernel_rfl) (by kernel_rfl) (by kernel_rfl) (fun _ _ _ h => h) (Or.inl ⟨by rfl, ?hy90⟩) (by assumption) ?_
            case hy90 => intro wq hSw; (try dsimp only at hSw); go_simp; (try with_reducible rfl)
            try simp only [Act.put, List.setIfInBounds_toArray, List.set_cons_zero, List.set_cons_succ]
            refine wpAnyH_ready (rs := [1, 19]) (by kernel_rfl) (by simp) ?_
            refine AllReadyH.cons (o := ⟨_, _, _, _, _, _⟩) rfl (fun K hK => ?_) (AllReadyH.cons (o := ⟨_, _, _, _, _, _⟩) rfl (fun K hK => ?_) AllReadyH.nil)
            · go_simp
              refine hK.out _ _ (by exact K0) (fun hHeld => ?_)
              clear hK K
              try simp only [Act.put, List.setIfInBounds_toArray, List.set_cons_zero, List.set_cons_succ]
              refine wpAnyH_ready (rs := [19]) (by kernel_rfl) (by simp) ?_
              refine AllReadyH.cons (o := ⟨_, _, _, _, _, _⟩) rfl (fun K hK => ?_) AllReadyH.nil
              go_simp
              (go_at_call 7; (with_reducible refine CC.out.mono ?_); rintro e w3 ⟨cs3, rfl, hs3, ho3, hS3, hb3⟩; have AF0 := AFT.out cs3 w3 ho3 hS3 hb3 hs3; clear hS3 hb3; obtain ⟨b0, b1, b2, b3, b4, b5, b6, b7, b8, b9, b10, b11, b12, b13, b14, b15, rfl⟩ := sixteen_of_size hs3; have H3 := hide ho3; have AF := hide AF0; have K1 := AF.out.1; have K2 := AF.out.2.1; have c73 := AF.out.2.2.1; have c74 := AF.out.2.2.2.1; clear AF0 ho3 hs3)
              try go_wp2_with fail
              refine hK.out _ _ (by exact K1) (fun hHeld => ?_)
              clear hK K
              try simp only [Act.put, List.setIfInBounds_toArray, List.set_cons_zero, List.set_cons_succ]
              refine wpAnyH_ready (rs := [20]) (by kernel_rfl) (by simp) ?_
              refine AllReadyH.cons (o := ⟨_, _, _, _, _, _⟩) rfl (fun K hK => ?_) AllReadyH.nil
              go_simp
              refine hK.out _ _ (by exact K2 _) (fun hHeld => ?_)
              clear hK K
              try simp only [Act.put, List.setIfInBounds_toArray, List.set_cons_zero, List.set_cons_succ]
              refine wpAnyH_ready (rs := [21]) (by kernel_rfl) (by simp) ?_
              refine AllReadyH.cons (o := ⟨_, _, _, _, _, _⟩) rfl (fun K hK => ?_) AllReadyH.nil
              (obtain ⟨hle3, css, k1, hcl⟩ := AF.out.2.2.2.2; refine step_append_lies _ rfl (.tmp 55) (.tmp 74) 31 rfl (w.heap.size + 3) 34 i0 (.agg zeroI) 16 192 Tryz.underlying31 hi0 hz0 hz1 hz2 rfl (by decide) _ j (flat css) rfl k1 ⟨w3.heap.size, 0, none⟩ 1 1 (#[b0, b1, b2, b3, b4, b5, b6, b7, b8, b9, b10, b11, b12, b13, b14, b15] : Array Value).toList rfl rfl (World.news_of_block (newB1 w3 _)) (one_mem H3.out) (by omega) (by unfold maxLen; omega) (by omega) (by rw [World.size_alloc']; omega) _ rfl ?_; intro g5 cap5 w5 hown5 hg5 hat5 hlt5; have D5 := hide (hcl g5 cap5 w5 hown5 hg5 hat5); have K5 := D5.out.1; have K6 := D5.out.2.1; have c75 := D5.out.2.2.1; have f75 := D5.out.2.2.2.1; clear hown5 hg5 hat5 hlt5 k1 hcl)
              refine hK.out _ _ (by exact K5) (fun hHeld => ?_)
              clear hK K
              try simp only [Act.put, List.setIfInBounds_toArray, List.set_cons_zero, List.set_cons_succ]
              refine wpAnyH_ready (rs := [22]) (by kernel_rfl) (by simp) ?_
              refine AllReadyH.cons (o := ⟨_, _, _, _, _, _⟩) rfl (fun K hK => ?_) AllReadyH.nil
              go_simp
              refine hK.out _ _ (by exact K5) (fun hHeld => ?_)
              clear hK K
              try simp only [Act.put, List.setIfInBounds_toArray, List.set_cons_zero, List.set_cons_succ]
              refine wpAnyH_ready (rs := [23]) (by kernel_rfl) (by simp) ?_
              refine AllReadyH.cons (o := ⟨_, _, _, _, _, _⟩) rfl (fun K hK => ?_) AllReadyH.nil
              go_simp
              refine hK.out _ _ (by exact K6 _) (fun hHeld => ?_)
              clear hK K
              try simp only [Act.put, List.setIfInBounds_toArray, List.set_cons_zero, List.set_cons_succ]
              refine wpAnyH_done (by kernel_rfl) ?_ _
              go_wp2
              go_roundw
              case rel => exact ⟨j + 1, _, xl ++ [xs j], by omega, by go_num, hide (snoc_get HX.out), hide D5.out.2.2.2.2⟩
              case measure => simp [intOf]; omega
            · go_simp
              (go_at_call 7; (with_reducible refine CC.out.mono ?_); rintro e w3 ⟨cs3, rfl, hs3, ho3, hS3, hb3⟩; have AF0 := AFT.out cs3 w3 ho3 hS3 hb3 hs3; clear hS3 hb3; obtain ⟨b0, b1, b2, b3, b4, b5, b6, b7, b8, b9, b10, b11, b12, b13, b14, b15, rfl⟩ := sixteen_of_size hs3; have H3 := hide ho3; have AF := hide AF0; have K1 := AF.out.1; have K2 := AF.out.2.1; have c73 := AF.out.2.2.1; have c74 := AF.out.2.2.2.1; clear AF0 ho3 hs3)
              try go_wp2_with fail
              refine hK.out _ _ (by exact K1) (fun hHeld => ?_)
              clear hK K
              try simp only [Act.put, List.setIfInBounds_toArray, List.set_cons_zero, List.set_cons_succ]
              refine wpAnyH_ready (rs := [1, 20]) (by kernel_rfl) (by simp) ?_
              refine AllReadyH.cons (o := ⟨_, _, _, _, _, _⟩) rfl (fun K hK => ?_) (AllReadyH.cons (o := ⟨_, _, _, _, _, _⟩) rfl (fun K hK => ?_) AllReadyH.nil)
              · go_simp
                refine hK.out _ _ (by exact K1) (fun hHeld => ?_)
                clear hK K
                try simp only [Act.put, List.setIfInBounds_toArray, List.set_cons_zero, List.set_cons_succ]
                refine wpAnyH_ready (rs := [20]) (by kernel_rfl) (by simp) ?_
                refine AllReadyH.cons (o := ⟨_, _, _, _, _, _⟩) rfl (fun K hK => ?_) AllReadyH.nil
                go_simp
                refine hK.out _ _ (by exact K2 _) (fun hHeld => ?_)
                clear hK K
                try simp only [Act.put, List.setIfInBounds_toArray, List.set_cons_zero, List.set_cons_succ]
                refine wpAnyH_ready (rs := [21]) (by kernel_rfl) (by simp) ?_
                refine AllReadyH.cons (o := ⟨_, _, _, _, _, _⟩) rfl (fun K hK => ?_) AllReadyH.nil
                (obtain ⟨hle3, css, k1, hcl⟩ := AF.out.2.2.2.2; refine step_append_lies _ rfl (.tmp 55) (.tmp 74) 31 rfl (w.heap.size + 3) 34 i0 (.agg zeroI) 16 192 Tryz.underlying31 hi0 hz0 hz1 hz2 rfl (by decide) _ j (flat css) rfl k1 ⟨w3.heap.size, 0, none⟩ 1 1 (#[b0, b1, b2, b3, b4, b5, b6, b7, b8, b9, b10, b11, b12, b13, b14, b15] : Array Value).toList rfl rfl (World.news_of_block (newB1 w3 _)) (one_mem H3.out) (by omega) (by unfold maxLen; omega) (by omega) (by rw [World.size_alloc']; omega) _ rfl ?_; intro g5 cap5 w5 hown5 hg5 hat5 hlt5; have D5 := hide (hcl g5 cap5 w5 hown5 hg5 hat5); have K5 := D5.out.1; have K6 := D5.out.2.1; have c75 := D5.out.2.2.1; have f75 := D5.out.2.2.2.1; clear hown5 hg5 hat5 hlt5 k1 hcl)
                refine hK.out _ _ (by exact K5) (fun hHeld => ?_)
                clear hK K
                try simp only [Act.put, List.setIfInBounds_toArray, List.set_cons_zero, List.set_cons_succ]
                refine wpAnyH_ready (rs := [22]) (by kernel_rfl) (by simp) ?_
                refine AllReadyH.cons (o := ⟨_, _, _, _, _, _⟩) rfl (fun K hK => ?_) AllReadyH.nil
                go_simp
                refine hK.out _ _ (by exact K5) (fun hHeld => ?_)
                clear hK K
                try simp only [Act.put, List.setIfInBounds_toArray, List.set_cons_zero, List.set_cons_succ]
                refine wpAnyH_ready (rs := [23]) (by kernel_rfl) (by simp) ?_
                refine AllReadyH.cons (o := ⟨_, _, _, _, _, _⟩) rfl (fun K hK => ?_) AllReadyH.nil
                go_simp
                refine hK.out _ _ (by exact K6 _) (fun hHeld => ?_)
                clear hK K
                try simp only [Act.put, List.setIfInBounds_toArray, List.set_cons_zero, List.set_cons_succ]
                refine wpAnyH_done (by kernel_rfl) ?_ _
                go_wp2
                go_roundw
                case rel => exact ⟨j + 1, _, xl ++ [xs j], by omega, by go_num, hide (snoc_get HX.out), hide D5.out.2.2.2.2⟩
                case measure => simp [intOf]; omega
              · go_simp
                refine hK.out _ _ (by exact K2 _) (fun hHeld => ?_)
                clear hK K
                try simp only [Act.put, List.setIfInBounds_toArray, List.set_cons_zero, List.set_cons_succ]
                refine wpAnyH_ready (rs := [1]) (by kernel_rfl) (by simp) ?_
                refine AllReadyH.cons (o := ⟨_, _, _, _, _, _⟩) rfl (fun K hK => ?_) AllReadyH.nil
                go_simp
                refine hK.out _ _ (by exact K2 _) (fun hHeld => ?_)
                clear hK K
                try simp only [Act.put, List.setIfInBounds_toArray, List.set_cons_zero, List.set_cons_succ]
                refine wpAnyH_ready (rs := [21]) (by kernel_rfl) (by simp) ?_
                refine AllReadyH.cons (o := ⟨_, _, _, _, _, _⟩) rfl (fun K hK => ?_) AllReadyH.nil
                (obtain ⟨hle3, css, k1, hcl⟩ := AF.out.2.2.2.2; refine step_append_lies _ rfl (.tmp 55) (.tmp 74) 31 rfl (w.heap.size + 3) 34 i0 (.agg zeroI) 16 192 Tryz.underlying31 hi0 hz0 hz1 hz2 rfl (by decide) _ j (flat css) rfl k1 ⟨w3.heap.size, 0, none⟩ 1 1 (#[b0, b1, b2, b3, b4, b5, b6, b7, b8, b9, b10, b11, b12, b13, b14, b15] : Array Value).toList rfl rfl (World.news_of_block (newB1 w3 _)) (one_mem H3.out) (by omega) (by unfold maxLen; omega) (by omega) (by rw [World.size_alloc']; omega) _ rfl ?_; intro g5 cap5 w5 hown5 hg5 hat5 hlt5; have D5 := hide (hcl g5 cap5 w5 hown5 hg5 hat5); have K5 := D5.out.1; have K6 := D5.out.2.1; have c75 := D5.out.2.2.1; have f75 := D5.out.2.2.2.1; clear hown5 hg5 hat5 hlt5 k1 hcl)
                refine hK.out _ _ (by exact K5) (fun hHeld => ?_)
                clear hK K
                try simp only [Act.put, List.setIfInBounds_toArray, List.set_cons_zero, List.set_cons_succ]
                refine wpAnyH_ready (rs := [22]) (by kernel_rfl) (by simp) ?_
                refine AllReadyH.cons (o := ⟨_, _, _, _, _, _⟩) rfl (fun K hK => ?_) AllReadyH.nil
                go_simp
                refine hK.out _ _ (by exact K5) (fun hHeld => ?_)
                clear hK K
                try simp only [Act.put, List.setIfInBounds_toArray, List.set_cons_zero, List.set_cons_succ]
                refine wpAnyH_ready (rs := [23]) (by kernel_rfl) (by simp) ?_
                refine AllReadyH.cons (o := ⟨_, _, _, _, _, _⟩) rfl (fun K hK => ?_) AllReadyH.nil
                go_simp
                refine hK.out _ _ (by exact K6 _) (fun hHeld => ?_)
                clear hK K
                try simp only [Act.put, List.setIfInBounds_toArray, List.set_cons_zero, List.set_cons_succ]
                refine wpAnyH_done (by kernel_rfl) ?_ _
                go_wp2
                go_roundw
                case rel => exact ⟨j + 1, _, xl ++ [xs j], by omega, by go_num, hide (snoc_get HX.out), hide D5.out.2.2.2.2⟩
                case measure => simp [intOf]; omega
          | false =>
            have hg : kidG k false false = true := by rw [hguard.out, k3]; simp
            rw [hg] at CC
            clear hg hguard h3
            refine wp_region_held_drew (S := fun w' => (w'.cell? ⟨w.heap.size, 0, none⟩ = some (.int .i64 k) ∧ w'.cell? ⟨w.heap.size, 5, none⟩ = some (.bool false)) ∧ ∀ q, w'.cell? ⟨wr.heap.size, q, none⟩ = (#[a0, a1, a2, a3, a4, a5, a6, a7, a8, a9] : Array Value)[q]?) (by kernel_rfl) K0 (fun hHeld => ?_)
            refine wpAnyH_take (i := 0) (oi := ⟨_, _, _, _, _, _⟩) (v := ?v91) rfl (by kernel_rfl) (by kernel_rfl) (by kernel_rfl) (fun _ _ _ h => h) (Or.inl ⟨by rfl, ?hy91⟩) (by assumption) ?_
            case hy91 => intro wq hSw; (try dsimp only at hSw); go_simp; (try with_reducible rfl)
            try simp only [Act.put, List.setIfInBounds_toArray, List.set_cons_zero, List.set_cons_succ]
            refine wpAnyH_take (i := 2) (oi := ⟨_, _, _, _, _, _⟩) (v := ?v92) rfl (by kernel_rfl) (by kernel_rfl) (by kernel_rfl) (fun _ _ _ h => h) (Or.inl ⟨by rfl, ?hy92⟩) (by assumption) ?_
            case hy92 => intro wq hSw; (try dsimp only at hSw); go_simp; (try with_reducible rfl)
            try simp only [Act.put, List.setIfInBounds_toArray, List.set_cons_zero, List.set_cons_succ]
            refine wpAnyH_take (i := 3) (oi := ⟨_, _, _, _, _, _⟩) (v := ?v93) rfl (by kernel_rfl) (by kernel_rfl) (by kernel_rfl) (fun _ _ _ h => h) (Or.inl ⟨by rfl, ?hy93⟩) (by assumption) ?_
            case hy93 => intro wq hSw; (try dsimp only at hSw); go_simp; (try with_reducible rfl)
            try simp only [Act.put, List.setIfInBounds_toArray, List.set_cons_zero, List.set_cons_succ]
            refine wpAnyH_take (i := 4) (oi := ⟨_, _, _, _, _, _⟩) (v := ?v94) rfl (by kernel_rfl) (by kernel_rfl) (by kernel_rfl) (fun _ _ _ h => h) (Or.inl ⟨by rfl, ?hy94⟩) (by assumption) ?_
            case hy94 => intro wq hSw; (try dsimp only at hSw); go_simp; (try with_reducible rfl)
            try simp only [Act.put, List.setIfInBounds_toArray, List.set_cons_zero, List.set_cons_succ]
            refine wpAnyH_take (i := 5) (oi := ⟨_, _, _, _, _, _⟩) (v := ?v95) rfl (by kernel_rfl) (by kernel_rfl) (by kernel_rfl) (fun _ _ _ h => h) (Or.inl ⟨by rfl, ?hy95⟩) (by assumption) ?_
            case hy95 => intro wq hSw; (try dsimp only at hSw); go_simp; (try with_reducible rfl)
            try simp only [Act.put, List.setIfInBounds_toArray, List.set_cons_zero, List.set_cons_succ]
            refine wpAnyH_take (i := 6) (oi := ⟨_, _, _, _, _, _⟩) (v := ?v96) rfl (by kernel_rfl) (by kernel_rfl) (by kernel_rfl) (fun _ _ _ h => h) (Or.inl ⟨by rfl, ?hy96⟩) (by assumption) ?_
            case hy96 => intro wq hSw; (try dsimp only at hSw); go_simp; (try with_reducible rfl)
            try simp only [Act.put, List.setIfInBounds_toArray, List.set_cons_zero, List.set_cons_succ]
            refine wpAnyH_take (i := 7) (oi := ⟨_, _, _, _, _, _⟩) (v := ?v97) rfl (by kernel_rfl) (by kernel_rfl) (by kernel_rfl) (fun _ _ _ h => h) (Or.inl ⟨by rfl, ?hy97⟩) (by assumption) ?_
            case hy97 => intro wq hSw; (try dsimp only at hSw); go_simp; (try with_reducible rfl)
            try simp only [Act.put, List.setIfInBounds_toArray, List.set_cons_zero, List.set_cons_succ]
            refine wpAnyH_take (i := 8) (oi := ⟨_, _, _, _, _, _⟩) (v := ?v98) rfl (by kernel_rfl) (by kernel_rfl) (by kernel_rfl) (fun _ _ _ h => h) (Or.inl ⟨by rfl, ?hy98⟩) (by assumption) ?_
            case hy98 => intro wq hSw; (try dsimp only at hSw); go_simp; (try with_reducible rfl)
            try simp only [Act.put, List.setIfInBounds_toArray, List.set_cons_zero, List.set_cons_succ]
            refine wpAnyH_take (i := 9) (oi := ⟨_, _, _, _, _, _⟩) (v := ?v99) rfl (by kernel_rfl) (by kernel_rfl) (by kernel_rfl) (fun _ _ _ h => h) (Or.inl ⟨by rfl, ?hy99⟩) (by assumption) ?_
            case hy99 => intro wq hSw; (try dsimp only at hSw); go_simp; (try with_reducible rfl)
            try simp only [Act.put, List.setIfInBounds_toArray, List.set_cons_zero, List.set_cons_succ]
            refine wpAnyH_take (i := 10) (oi := ⟨_, _, _, _, _, _⟩) (v := ?v100) rfl (by kernel_rfl) (by kernel_rfl) (by kernel_rfl) (fun _ _ _ h => h) (Or.inl ⟨by rfl, ?hy100⟩) (by assumption) ?_
            case hy100 => intro wq hSw; (try dsimp only at hSw); go_simp; (try with_reducible rfl)
            try simp only [Act.put, List.setIfInBounds_toArray, List.set_cons_zero, List.set_cons_succ]
            refine wpAnyH_take (i := 11) (oi := ⟨_, _, _, _, _, _⟩) (v := ?v101) rfl (by kernel_rfl) (by kernel_rfl) (by kernel_rfl) (fun _ _ _ h => h) (Or.inl ⟨by rfl, ?hy101⟩) (by assumption) ?_
            case hy101 => intro wq hSw; (try dsimp only at hSw); go_simp; (try with_reducible rfl)
            try simp only [Act.put, List.setIfInBounds_toArray, List.set_cons_zero, List.set_cons_succ]
            refine wpAnyH_take (i := 12) (oi := ⟨_, _, _, _, _, _⟩) (v := undef) rfl (by kernel_rfl) (by kernel_rfl) (by kernel_rfl) (fun _ _ _ h => h) (Or.inr ⟨by rfl, rfl⟩) (by assumption) ?_
            try simp only [Act.put, List.setIfInBounds_toArray, List.set_cons_zero, List.set_cons_succ]
            refine wpAnyH_take (i := 13) (oi := ⟨_, _, _, _, _, _⟩) (v := undef) rfl (by kernel_rfl) (by kernel_rfl) (by kernel_rfl) (fun _ _ _ h => h) (Or.inr ⟨by rfl, rfl⟩) (by assumption) ?_
            try simp only [Act.put, List.setIfInBounds_toArray, List.set_cons_zero, List.set_cons_succ]
            refine wpAnyH_take (i := 14) (oi := ⟨_, _, _, _, _, _⟩) (v := undef) rfl (by kernel_rfl) (by kernel_rfl) (by kernel_rfl) (fun _ _ _ h => h) (Or.inr ⟨by rfl, rfl⟩) (by assumption) ?_
            try simp only [Act.put, List.setIfInBounds_toArray, List.set_cons_zero, List.set_cons_succ]
            refine wpAnyH_take (i := 15) (oi := ⟨_, _, _, _, _, _⟩) (v := undef) rfl (by kernel_rfl) (by kernel_rfl) (by kernel_rfl) (fun _ _ _ h => h) (Or.inr ⟨by rfl, rfl⟩) (by assumption) ?_
            try simp only [Act.put, List.setIfInBounds_toArray, List.set_cons_zero, List.set_cons_succ]
            refine wpAnyH_take (i := 16) (oi := ⟨_, _, _, _, _, _⟩) (v := undef) rfl (by kernel_rfl) (by kernel_rfl) (by kernel_rfl) (fun _ _ _ h => h) (Or.inr ⟨by rfl, rfl⟩) (by assumption) ?_
            try simp only [Act.put, List.setIfInBounds_toArray, List.set_cons_zero, List.set_cons_succ]
            refine wpAnyH_take (i := 17) (oi := ⟨_, _, _, _, _, _⟩) (v := undef) rfl (by kernel_rfl) (by kernel_rfl) (by kernel_rfl) (fun _ _ _ h => h) (Or.inr ⟨by rfl, rfl⟩) (by assumption) ?_
            try simp only [Act.put, List.setIfInBounds_toArray, List.set_cons_zero, List.set_cons_succ]
            refine wpAnyH_take (i := 18) (oi := ⟨_, _, _, _, _, _⟩) (v := ?v108) rfl (by kernel_rfl) (by kernel_rfl) (by kernel_rfl) (fun _ _ _ h => h) (Or.inl ⟨by rfl, ?hy108⟩) (by assumption) ?_
            case hy108 => intro wq hSw; (try dsimp only at hSw); go_simp; (try with_reducible rfl)
            try simp only [Act.put, List.setIfInBounds_toArray, List.set_cons_zero, List.set_cons_succ]
            refine wpAnyH_ready (rs := [1, 19]) (by kernel_rfl) (by simp) ?_
            refine AllReadyH.cons (o := ⟨_, _, _, _, _, _⟩) rfl (fun K hK => ?_) (AllReadyH.cons (o := ⟨_, _, _, _, _, _⟩) rfl (fun K hK => ?_) AllReadyH.nil)
            · go_simp
              refine hK.out _ _ (by exact K0) (fun hHeld => ?_)
              clear hK K
              try simp only [Act.put, List.setIfInBounds_toArray, List.set_cons_zero, List.set_cons_succ]
              refine wpAnyH_ready (rs := [19]) (by kernel_rfl) (by simp) ?_
              refine AllReadyH.cons (o := ⟨_, _, _, _, _, _⟩) rfl (fun K hK => ?_) AllReadyH.nil
              go_simp
              (go_at_call 7; (with_reducible refine CC.out.mono ?_); rintro e w3 ⟨cs3, rfl, hs3, ho3, hS3, hb3⟩; have AF0 := AFT.out cs3 w3 ho3 hS3 hb3 hs3; clear hS3 hb3; obtain ⟨b0, b1, b2, b3, b4, b5, b6, b7, b8, b9, b10, b11, b12, b13, b14, b15, rfl⟩ := sixteen_of_size hs3; have H3 := hide ho3; have AF := hide AF0; have K1 := AF.out.1; have K2 := AF.out.2.1; have c73 := AF.out.2.2.1; have c74 := AF.out.2.2.2.1; clear AF0 ho3 hs3)
              try go_wp2_with fail
              refine hK.out _ _ (by exact K1) (fun hHeld => ?_)
              clear hK K
              try simp only [Act.put, List.setIfInBounds_toArray, List.set_cons_zero, List.set_cons_succ]
              refine wpAnyH_ready (rs := [20]) (by kernel_rfl) (by simp) ?_
              refine AllReadyH.cons (o := ⟨_, _, _, _, _, _⟩) rfl (fun K hK => ?_) AllReadyH.nil
              go_simp
              refine hK.out _ _ (by exact K2 _) (fun hHeld => ?_)
              clear hK K
              try simp only [Act.put, List.setIfInBounds_toArray, List.set_cons_zero, List.set_cons_succ]
              refine wpAnyH_ready (rs := [21]) (by kernel_rfl) (by simp) ?_
              refine AllReadyH.cons (o := ⟨_, _, _, _, _, _⟩) rfl (fun K hK => ?_) AllReadyH.nil
              (obtain ⟨hle3, css, k1, hcl⟩ := AF.out.2.2.2.2; refine step_append_lies _ rfl (.tmp 55) (.tmp 74) 31 rfl (w.heap.size + 3) 34 i0 (.agg zeroI) 16 192 Tryz.underlying31 hi0 hz0 hz1 hz2 rfl (by decide) _ j (flat css) rfl k1 ⟨w3.heap.size, 0, none⟩ 1 1 (#[b0, b1, b2, b3, b4, b5, b6, b7, b8, b9, b10, b11, b12, b13, b14, b15] : Array Value).toList rfl rfl (World.news_of_block (newB1 w3 _)) (one_mem H3.out) (by omega) (by unfold maxLen; omega) (by omega) (by rw [World.size_alloc']; omega) _ rfl ?_; intro g5 cap5 w5 hown5 hg5 hat5 hlt5; have D5 := hide (hcl g5 cap5 w5 hown5 hg5 hat5); have K5 := D5.out.1; have K6 := D5.out.2.1; have c75 := D5.out.2.2.1; have f75 := D5.out.2.2.2.1; clear hown5 hg5 hat5 hlt5 k1 hcl)
              refine hK.out _ _ (by exact K5) (fun hHeld => ?_)
              clear hK K
              try simp only [Act.put, List.setIfInBounds_toArray, List.set_cons_zero, List.set_cons_succ]
              refine wpAnyH_ready (rs := [22]) (by kernel_rfl) (by simp) ?_
              refine AllReadyH.cons (o := ⟨_, _, _, _, _, _⟩) rfl (fun K hK => ?_) AllReadyH.nil
              go_simp
              refine hK.out _ _ (by exact K5) (fun hHeld => ?_)
              clear hK K
              try simp only [Act.put, List.setIfInBounds_toArray, List.set_cons_zero, List.set_cons_succ]
              refine wpAnyH_ready (rs := [23]) (by kernel_rfl) (by simp) ?_
              refine AllReadyH.cons (o := ⟨_, _, _, _, _, _⟩) rfl (fun K hK => ?_) AllReadyH.nil
              go_simp
              refine hK.out _ _ (by exact K6 _) (fun hHeld => ?_)
              clear hK K
              try simp only [Act.put, List.setIfInBounds_toArray, List.set_cons_zero, List.set_cons_succ]
              refine wpAnyH_done (by kernel_rfl) ?_ _
              go_wp2
              go_roundw
              case rel => exact ⟨j + 1, _, xl ++ [xs j], by omega, by go_num, hide (snoc_get HX.out), hide D5.out.2.2.2.2⟩
              case measure => simp [intOf]; omega
            · go_simp
              (go_at_call 7; (with_reducible refine CC.out.mono ?_); rintro e w3 ⟨cs3, rfl, hs3, ho3, hS3, hb3⟩; have AF0 := AFT.out cs3 w3 ho3 hS3 hb3 hs3; clear hS3 hb3; obtain ⟨b0, b1, b2, b3, b4, b5, b6, b7, b8, b9, b10, b11, b12, b13, b14, b15, rfl⟩ := sixteen_of_size hs3; have H3 := hide ho3; have AF := hide AF0; have K1 := AF.out.1; have K2 := AF.out.2.1; have c73 := AF.out.2.2.1; have c74 := AF.out.2.2.2.1; clear AF0 ho3 hs3)
              try go_wp2_with fail
              refine hK.out _ _ (by exact K1) (fun hHeld => ?_)
              clear hK K
              try simp only [Act.put, List.setIfInBounds_toArray, List.set_cons_zero, List.set_cons_succ]
              refine wpAnyH_ready (rs := [1, 20]) (by kernel_rfl) (by simp) ?_
              refine AllReadyH.cons (o := ⟨_, _, _, _, _, _⟩) rfl (fun K hK => ?_) (AllReadyH.cons (o := ⟨_, _, _, _, _, _⟩) rfl (fun K hK => ?_) AllReadyH.nil)
              · go_simp
                refine hK.out _ _ (by exact K1) (fun hHeld => ?_)
                clear hK K
                try simp only [Act.put, List.setIfInBounds_toArray, List.set_cons_zero, List.set_cons_succ]
                refine wpAnyH_ready (rs := [20]) (by kernel_rfl) (by simp) ?_
                refine AllReadyH.cons (o := ⟨_, _, _, _, _, _⟩) rfl (fun K hK => ?_) AllReadyH.nil
                go_simp
                refine hK.out _ _ (by exact K2 _) (fun hHeld => ?_)
                clear hK K
                try simp only [Act.put, List.setIfInBounds_toArray, List.set_cons_zero, List.set_cons_succ]
                refine wpAnyH_ready (rs := [21]) (by kernel_rfl) (by simp) ?_
                refine AllReadyH.cons (o := ⟨_, _, _, _, _, _⟩) rfl (fun K hK => ?_) AllReadyH.nil
                (obtain ⟨hle3, css, k1, hcl⟩ := AF.out.2.2.2.2; refine step_append_lies _ rfl (.tmp 55) (.tmp 74) 31 rfl (w.heap.size + 3) 34 i0 (.agg zeroI) 16 192 Tryz.underlying31 hi0 hz0 hz1 hz2 rfl (by decide) _ j (flat css) rfl k1 ⟨w3.heap.size, 0, none⟩ 1 1 (#[b0, b1, b2, b3, b4, b5, b6, b7, b8, b9, b10, b11, b12, b13, b14, b15] : Array Value).toList rfl rfl (World.news_of_block (newB1 w3 _)) (one_mem H3.out) (by omega) (by unfold maxLen; omega) (by omega) (by rw [World.size_alloc']; omega) _ rfl ?_; intro g5 cap5 w5 hown5 hg5 hat5 hlt5; have D5 := hide (hcl g5 cap5 w5 hown5 hg5 hat5); have K5 := D5.out.1; have K6 := D5.out.2.1; have c75 := D5.out.2.2.1; have f75 := D5.out.2.2.2.1; clear hown5 hg5 hat5 hlt5 k1 hcl)
                refine hK.out _ _ (by exact K5) (fun hHeld => ?_)
                clear hK K
                try simp only [Act.put, List.setIfInBounds_toArray, List.set_cons_zero, List.set_cons_succ]
                refine wpAnyH_ready (rs := [22]) (by kernel_rfl) (by simp) ?_
                refine AllReadyH.cons (o := ⟨_, _, _, _, _, _⟩) rfl (fun K hK => ?_) AllReadyH.nil
                go_simp
                refine hK.out _ _ (by exact K5) (fun hHeld => ?_)
                clear hK K
                try simp only [Act.put, List.setIfInBounds_toArray, List.set_cons_zero, List.set_cons_succ]
                refine wpAnyH_ready (rs := [23]) (by kernel_rfl) (by simp) ?_
                refine AllReadyH.cons (o := ⟨_, _, _, _, _, _⟩) rfl (fun K hK => ?_) AllReadyH.nil
                go_simp
                refine hK.out _ _ (by exact K6 _) (fun hHeld => ?_)
                clear hK K
                try simp only [Act.put, List.setIfInBounds_toArray, List.set_cons_zero, List.set_cons_succ]
                refine wpAnyH_done (by kernel_rfl) ?_ _
                go_wp2
                go_roundw
                case rel => exact ⟨j + 1, _, xl ++ [xs j], by omega, by go_num, hide (snoc_get HX.out), hide D5.out.2.2.2.2⟩
                case measure => simp [intOf]; omega
              · go_simp
                refine hK.out _ _ (by exact K2 _) (fun hHeld => ?_)
                clear hK K
                try simp only [Act.put, List.setIfInBounds_toArray, List.set_cons_zero, List.set_cons_succ]
                refine wpAnyH_ready (rs := [1]) (by kernel_rfl) (by simp) ?_
                refine AllReadyH.cons (o := ⟨_, _, _, _, _, _⟩) rfl (fun K hK => ?_) AllReadyH.nil
                go_simp
                refine hK.out _ _ (by exact K2 _) (fun hHeld => ?_)
                clear hK K
                try simp only [Act.put, List.setIfInBounds_toArray, List.set_cons_zero, List.set_cons_succ]
                refine wpAnyH_ready (rs := [21]) (by kernel_rfl) (by simp) ?_
                refine AllReadyH.cons (o := ⟨_, _, _, _, _, _⟩) rfl (fun K hK => ?_) AllReadyH.nil
                (obtain ⟨hle3, css, k1, hcl⟩ := AF.out.2.2.2.2; refine step_append_lies _ rfl (.tmp 55) (.tmp 74) 31 rfl (w.heap.size + 3) 34 i0 (.agg zeroI) 16 192 Tryz.underlying31 hi0 hz0 hz1 hz2 rfl (by decide) _ j (flat css) rfl k1 ⟨w3.heap.size, 0, none⟩ 1 1 (#[b0, b1, b2, b3, b4, b5, b6, b7, b8, b9, b10, b11, b12, b13, b14, b15] : Array Value).toList rfl rfl (World.news_of_block (newB1 w3 _)) (one_mem H3.out) (by omega) (by unfold maxLen; omega) (by omega) (by rw [World.size_alloc']; omega) _ rfl ?_; intro g5 cap5 w5 hown5 hg5 hat5 hlt5; have D5 := hide (hcl g5 cap5 w5 hown5 hg5 hat5); have K5 := D5.out.1; have K6 := D5.out.2.1; have c75 := D5.out.2.2.1; have f75 := D5.out.2.2.2.1; clear hown5 hg5 hat5 hlt5 k1 hcl)
                refine hK.out _ _ (by exact K5) (fun hHeld => ?_)
                clear hK K
                try simp only [Act.put, List.setIfInBounds_toArray, List.set_cons_zero, List.set_cons_succ]
                refine wpAnyH_ready (rs := [22]) (by kernel_rfl) (by simp) ?_
                refine AllReadyH.cons (o := ⟨_, _, _, _, _, _⟩) rfl (fun K hK => ?_) AllReadyH.nil
                go_simp
                refine hK.out _ _ (by exact K5) (fun hHeld => ?_)
                clear hK K
                try simp only [Act.put, List.setIfInBounds_toArray, List.set_cons_zero, List.set_cons_succ]
                refine wpAnyH_ready (rs := [23]) (by kernel_rfl) (by simp) ?_
                refine AllReadyH.cons (o := ⟨_, _, _, _, _, _⟩) rfl (fun K hK => ?_) AllReadyH.nil
                go_simp
                refine hK.out _ _ (by exact K6 _) (fun hHeld => ?_)
                clear hK K
                try simp only [Act.put, List.setIfInBounds_toArray, List.set_cons_zero, List.set_cons_succ]
                refine wpAnyH_done (by kernel_rfl) ?_ _
                go_wp2
                go_roundw
                case rel => exact ⟨j + 1, _, xl ++ [xs j], by omega, by go_num, hide (snoc_get HX.out), hide D5.out.2.2.2.2⟩
                case measure => simp [intOf]; omega
        · have k3 : (k == 3) = false := by rw [beq_eq_false_iff_ne]; exact h3
          have hg : kidG k l false = false := by rw [hguard.out, k3]; simp
          rw [hg] at CC
          clear hg hguard
          refine wp_region_held_drew (S := fun w' => (w'.cell? ⟨w.heap.size, 0, none⟩ = some (.int .i64 k) ∧ w'.cell? ⟨w.heap.size, 5, none⟩ = some (.bool l)) ∧ ∀ q, w'.cell? ⟨wr.heap.size, q, none⟩ = (#[a0, a1, a2, a3, a4, a5, a6, a7, a8, a9] : Array Value)[q]?) (by kernel_rfl) K0 (fun hHeld => ?_)
          refine wpAnyH_take (i := 0) (oi := ⟨_, _, _, _, _, _⟩) (v := ?v109) rfl (by kernel_rfl) (by kernel_rfl) (by kernel_rfl) (fun _ _ _ h => h) (Or.inl ⟨by rfl, ?hy109⟩) (by assumption) ?_
          case hy109 => intro wq hSw; (try dsimp only at hSw); go_simp; (try with_reducible rfl)
          try simp only [Act.put, List.setIfInBounds_toArray, List.set_cons_zero, List.set_cons_succ]
          refine wpAnyH_take (i := 2) (oi := ⟨_, _, _, _, _, _⟩) (v := ?v110) rfl (by kernel_rfl) (by kernel_rfl) (by kernel_rfl) (fun _ _ _ h => h) (Or.inl ⟨by rfl, ?hy110⟩) (by assumption) ?_
          case hy110 => intro wq hSw; (try dsimp only at hSw); go_simp; (try with_reducible rfl)
          try simp only [Act.put, List.setIfInBounds_toArray, List.set_cons_zero, List.set_cons_succ]
          refine wpAnyH_take (i := 3) (oi := ⟨_, _, _, _, _, _⟩) (v := ?v111) rfl (by kernel_rfl) (by kernel_rfl) (by kernel_rfl) (fun _ _ _ h => h) (Or.inl ⟨by rfl, ?hy111⟩) (by assumption) ?_
          case hy111 => intro wq hSw; (try dsimp only at hSw); go_simp; (try with_reducible rfl)
          try simp only [Act.put, List.setIfInBounds_toArray, List.set_cons_zero, List.set_cons_succ]
          refine wpAnyH_take (i := 4) (oi := ⟨_, _, _, _, _, _⟩) (v := ?v112) rfl (by kernel_rfl) (by kernel_rfl) (by kernel_rfl) (fun _ _ _ h => h) (Or.inl ⟨by rfl, ?hy112⟩) (by assumption) ?_
          case hy112 => intro wq hSw; (try dsimp only at hSw); go_simp; (try with_reducible rfl)
          try simp only [Act.put, List.setIfInBounds_toArray, List.set_cons_zero, List.set_cons_succ]
          refine wpAnyH_take (i := 5) (oi := ⟨_, _, _, _, _, _⟩) (v := ?v113) rfl (by kernel_rfl) (by kernel_rfl) (by kernel_rfl) (fun _ _ _ h => h) (Or.inl ⟨by rfl, ?hy113⟩) (by assumption) ?_
          case hy113 => intro wq hSw; (try dsimp only at hSw); go_simp; (try with_reducible rfl)
          try simp only [Act.put, List.setIfInBounds_toArray, List.set_cons_zero, List.set_cons_succ]
          refine wpAnyH_take (i := 6) (oi := ⟨_, _, _, _, _, _⟩) (v := ?v114) rfl (by kernel_rfl) (by kernel_rfl) (by kernel_rfl) (fun _ _ _ h => h) (Or.inl ⟨by rfl, ?hy114⟩) (by assumption) ?_
          case hy114 => intro wq hSw; (try dsimp only at hSw); go_simp; (try with_reducible rfl)
          try simp only [Act.put, List.setIfInBounds_toArray, List.set_cons_zero, List.set_cons_succ]
          refine wpAnyH_take (i := 7) (oi := ⟨_, _, _, _, _, _⟩) (v := undef) rfl (by kernel_rfl) (by kernel_rfl) (by kernel_rfl) (fun _ _ _ h => h) (Or.inr ⟨by rfl, rfl⟩) (by assumption) ?_
          try simp only [Act.put, List.setIfInBounds_toArray, List.set_cons_zero, List.set_cons_succ]
          refine wpAnyH_take (i := 8) (oi := ⟨_, _, _, _, _, _⟩) (v := undef) rfl (by kernel_rfl) (by kernel_rfl) (by kernel_rfl) (fun _ _ _ h => h) (Or.inr ⟨by rfl, rfl⟩) (by assumption) ?_
          try simp only [Act.put, List.setIfInBounds_toArray, List.set_cons_zero, List.set_cons_succ]
          refine wpAnyH_take (i := 9) (oi := ⟨_, _, _, _, _, _⟩) (v := undef) rfl (by kernel_rfl) (by kernel_rfl) (by kernel_rfl) (fun _ _ _ h => h) (Or.inr ⟨by rfl, rfl⟩) (by assumption) ?_
          try simp only [Act.put, List.setIfInBounds_toArray, List.set_cons_zero, List.set_cons_succ]
          refine wpAnyH_take (i := 10) (oi := ⟨_, _, _, _, _, _⟩) (v := ?v118) rfl (by kernel_rfl) (by kernel_rfl) (by kernel_rfl) (fun _ _ _ h => h) (Or.inl ⟨by rfl, ?hy118⟩) (by assumption) ?_
          case hy118 => intro wq hSw; (try dsimp only at hSw); go_simp; (try with_reducible rfl)
          try simp only [Act.put, List.setIfInBounds_toArray, List.set_cons_zero, List.set_cons_succ]
          refine wpAnyH_take (i := 11) (oi := ⟨_, _, _, _, _, _⟩) (v := ?v119) rfl (by kernel_rfl) (by kernel_rfl) (by kernel_rfl) (fun _ _ _ h => h) (Or.inl ⟨by rfl, ?hy119⟩) (by assumption) ?_
          case hy119 => intro wq hSw; (try dsimp only at hSw); go_simp; (try with_reducible rfl)
          try simp only [Act.put, List.setIfInBounds_toArray, List.set_cons_zero, List.set_cons_succ]
          refine wpAnyH_take (i := 12) (oi := ⟨_, _, _, _, _, _⟩) (v := ?v120) rfl (by kernel_rfl) (by kernel_rfl) (by kernel_rfl) (fun _ _ _ h => h) (Or.inl ⟨by rfl, ?hy120⟩) (by assumption) ?_
          case hy120 => intro wq hSw; (try dsimp only at hSw); go_simp; (try with_reducible rfl)
          try simp only [Act.put, List.setIfInBounds_toArray, List.set_cons_zero, List.set_cons_succ]
          refine wpAnyH_take (i := 13) (oi := ⟨_, _, _, _, _, _⟩) (v := ?v121) rfl (by kernel_rfl) (by kernel_rfl) (by kernel_rfl) (fun _ _ _ h => h) (Or.inl ⟨by rfl, ?hy121⟩) (by assumption) ?_
          case hy121 => intro wq hSw; (try dsimp only at hSw); go_simp; (try with_reducible rfl)
          try simp only [Act.put, List.setIfInBounds_toArray, List.set_cons_zero, List.set_cons_succ]
          refine wpAnyH_take (i := 14) (oi := ⟨_, _, _, _, _, _⟩) (v := undef) rfl (by kernel_rfl) (by kernel_rfl) (by kernel_rfl) (fun _ _ _ h => h) (Or.inr ⟨by rfl, rfl⟩) (by assumption) ?_
          try simp only [Act.put, List.setIfInBounds_toArray, List.set_cons_zero, List.set_cons_succ]
          refine wpAnyH_take (i := 15) (oi := ⟨_, _, _, _, _, _⟩) (v := undef) rfl (by kernel_rfl) (by kernel_rfl) (by kernel_rfl) (fun _ _ _ h => h) (Or.inr ⟨by rfl, rfl⟩) (by assumption) ?_
          try simp only [Act.put, List.setIfInBounds_toArray, List.set_cons_zero, List.set_cons_succ]
          refine wpAnyH_take (i := 16) (oi := ⟨_, _, _, _, _, _⟩) (v := undef) rfl (by kernel_rfl) (by kernel_rfl) (by kernel_rfl) (fun _ _ _ h => h) (Or.inr ⟨by rfl, rfl⟩) (by assumption) ?_
          try simp only [Act.put, List.setIfInBounds_toArray, List.set_cons_zero, List.set_cons_succ]
          refine wpAnyH_take (i := 17) (oi := ⟨_, _, _, _, _, _⟩) (v := ?v125) rfl (by kernel_rfl) (by kernel_rfl) (by kernel_rfl) (fun _ _ _ h => h) (Or.inl ⟨by rfl, ?hy125⟩) (by assumption) ?_
          case hy125 => intro wq hSw; (try dsimp only at hSw); go_simp; (try with_reducible rfl)
          try simp only [Act.put, List.setIfInBounds_toArray, List.set_cons_zero, List.set_cons_succ]
          refine wpAnyH_take (i := 18) (oi := ⟨_, _, _, _, _, _⟩) (v := ?v126) rfl (by kernel_rfl) (by kernel_rfl) (by kernel_rfl) (fun _ _ _ h => h) (Or.inl ⟨by rfl, ?hy126⟩) (by assumption) ?_
          case hy126 => intro wq hSw; (try dsimp only at hSw); go_simp; (try with_reducible rfl)
          try simp only [Act.put, List.setIfInBounds_toArray, List.set_cons_zero, List.set_cons_succ]
          refine wpAnyH_ready (rs := [1, 19]) (by kernel_rfl) (by simp) ?_
          refine AllReadyH.cons (o := ⟨_, _, _, _, _, _⟩) rfl (fun K hK => ?_) (AllReadyH.cons (o := ⟨_, _, _, _, _, _⟩) rfl (fun K hK => ?_) AllReadyH.nil)
          · go_simp
            refine hK.out _ _ (by exact K0) (fun hHeld => ?_)
            clear hK K
            try simp only [Act.put, List.setIfInBounds_toArray, List.set_cons_zero, List.set_cons_succ]
            refine wpAnyH_ready (rs := [19]) (by kernel_rfl) (by simp) ?_
            refine AllReadyH.cons (o := ⟨_, _, _, _, _, _⟩) rfl (fun K hK => ?_) AllReadyH.nil
            go_simp
            (go_at_call 7; (with_reducible refine CC.out.mono ?_); rintro e w3 ⟨cs3, rfl, hs3, ho3, hS3, hb3⟩; have AF0 := AFT.out cs3 w3 ho3 hS3 hb3 hs3; clear hS3 hb3; obtain ⟨b0, b1, b2, b3, b4, b5, b6, b7, b8, b9, b10, b11, b12, b13, b14, b15, rfl⟩ := sixteen_of_size hs3; have H3 := hide ho3; have AF := hide AF0; have K1 := AF.out.1; have K2 := AF.out.2.1; have c73 := AF.out.2.2.1; have c74 := AF.out.2.2.2.1; clear AF0 ho3 hs3)
            try go_wp2_with fail
            refine hK.out _ _ (by exact K1) (fun hHeld => ?_)
            clear hK K
            try simp only [Act.put, List.setIfInBounds_toArray, List.set_cons_zero, List.set_cons_succ]
            refine wpAnyH_ready (rs := [20]) (by kernel_rfl) (by simp) ?_
            refine AllReadyH.cons (o := ⟨_, _, _, _, _, _⟩) rfl (fun K hK => ?_) AllReadyH.nil
            go_simp
            refine hK.out _ _ (by exact K2 _) (fun hHeld => ?_)
            clear hK K
            try simp only [Act.put, List.setIfInBounds_toArray, List.set_cons_zero, List.set_cons_succ]
            refine wpAnyH_ready (rs := [21]) (by kernel_rfl) (by simp) ?_
            refine AllReadyH.cons (o := ⟨_, _, _, _, _, _⟩) rfl (fun K hK => ?_) AllReadyH.nil
            (obtain ⟨hle3, css, k1, hcl⟩ := AF.out.2.2.2.2; refine step_append_lies _ rfl (.tmp 55) (.tmp 74) 31 rfl (w.heap.size + 3) 34 i0 (.agg zeroI) 16 192 Tryz.underlying31 hi0 hz0 hz1 hz2 rfl (by decide) _ j (flat css) rfl k1 ⟨w3.heap.size, 0, none⟩ 1 1 (#[b0, b1, b2, b3, b4, b5, b6, b7, b8, b9, b10, b11, b12, b13, b14, b15] : Array Value).toList rfl rfl (World.news_of_block (newB1 w3 _)) (one_mem H3.out) (by omega) (by unfold maxLen; omega) (by omega) (by rw [World.size_alloc']; omega) _ rfl ?_; intro g5 cap5 w5 hown5 hg5 hat5 hlt5; have D5 := hide (hcl g5 cap5 w5 hown5 hg5 hat5); have K5 := D5.out.1; have K6 := D5.out.2.1; have c75 := D5.out.2.2.1; have f75 := D5.out.2.2.2.1; clear hown5 hg5 hat5 hlt5 k1 hcl)
            refine hK.out _ _ (by exact K5) (fun hHeld => ?_)
            clear hK K
            try simp only [Act.put, List.setIfInBounds_toArray, List.set_cons_zero, List.set_cons_succ]
            refine wpAnyH_ready (rs := [22]) (by kernel_rfl) (by simp) ?_
            refine AllReadyH.cons (o := ⟨_, _, _, _, _, _⟩) rfl (fun K hK => ?_) AllReadyH.nil
            go_simp
            refine hK.out _ _ (by exact K5) (fun hHeld => ?_)
            clear hK K
            try simp only [Act.put, List.setIfInBounds_toArray, List.set_cons_zero, List.set_cons_succ]
            refine wpAnyH_ready (rs := [23]) (by kernel_rfl) (by simp) ?_
            refine AllReadyH.cons (o := ⟨_, _, _, _, _, _⟩) rfl (fun K hK => ?_) AllReadyH.nil
            go_simp
            refine hK.out _ _ (by exact K6 _) (fun hHeld => ?_)
            clear hK K
            try simp only [Act.put, List.setIfInBounds_toArray, List.set_cons_zero, List.set_cons_succ]
            refine wpAnyH_done (by kernel_rfl) ?_ _
            go_wp2
            go_roundw
            case rel => exact ⟨j + 1, _, xl ++ [xs j], by omega, by go_num, hide (snoc_get HX.out), hide D5.out.2.2.2.2⟩
            case measure => simp [intOf]; omega
          · go_simp
            (go_at_call 7; (with_reducible refine CC.out.mono ?_); rintro e w3 ⟨cs3, rfl, hs3, ho3, hS3, hb3⟩; have AF0 := AFT.out cs3 w3 ho3 hS3 hb3 hs3; clear hS3 hb3; obtain ⟨b0, b1, b2, b3, b4, b5, b6, b7, b8, b9, b10, b11, b12, b13, b14, b15, rfl⟩ := sixteen_of_size hs3; have H3 := hide ho3; have AF := hide AF0; have K1 := AF.out.1; have K2 := AF.out.2.1; have c73 := AF.out.2.2.1; have c74 := AF.out.2.2.2.1; clear AF0 ho3 hs3)
            try go_wp2_with fail
            refine hK.out _ _ (by exact K1) (fun hHeld => ?_)
            clear hK K
            try simp only [Act.put, List.setIfInBounds_toArray, List.set_cons_zero, List.set_cons_succ]
            refine wpAnyH_ready (rs := [1, 20]) (by kernel_rfl) (by simp) ?_
            refine AllReadyH.cons (o := ⟨_, _, _, _, _, _⟩) rfl (fun K hK => ?_) (AllReadyH.cons (o := ⟨_, _, _, _, _, _⟩) rfl (fun K hK => ?_) AllReadyH.nil)
            · go_simp
              refine hK.out _ _ (by exact K1) (fun hHeld => ?_)
              clear hK K
              try simp only [Act.put, List.setIfInBounds_toArray, List.set_cons_zero, List.set_cons_succ]
              refine wpAnyH_ready (rs := [20]) (by kernel_rfl) (by simp) ?_
              refine AllReadyH.cons (o := ⟨_, _, _, _, _, _⟩) rfl (fun K hK => ?_) AllReadyH.nil
              go_simp
              refine hK.out _ _ (by exact K2 _) (fun hHeld => ?_)
              clear hK K
              try simp only [Act.put, List.setIfInBounds_toArray, List.set_cons_zero, List.set_cons_succ]
              refine wpAnyH_ready (rs := [21]) (by kernel_rfl) (by simp) ?_
              refine AllReadyH.cons (o := ⟨_, _, _, _, _, _⟩) rfl (fun K hK => ?_) AllReadyH.nil
              (obtain ⟨hle3, css, k1, hcl⟩ := AF.out.2.2.2.2; refine step_append_lies _ rfl (.tmp 55) (.tmp 74) 31 rfl (w.heap.size + 3) 34 i0 (.agg zeroI) 16 192 Tryz.underlying31 hi0 hz0 hz1 hz2 rfl (by decide) _ j (flat css) rfl k1 ⟨w3.heap.size, 0, none⟩ 1 1 (#[b0, b1, b2, b3, b4, b5, b6, b7, b8, b9, b10, b11, b12, b13, b14, b15] : Array Value).toList rfl rfl (World.news_of_block (newB1 w3 _)) (one_mem H3.out) (by omega) (by unfold maxLen; omega) (by omega) (by rw [World.size_alloc']; omega) _ rfl ?_; intro g5 cap5 w5 hown5 hg5 hat5 hlt5; have D5 := hide (hcl g5 cap5 w5 hown5 hg5 hat5); have K5 := D5.out.1; have K6 := D5.out.2.1; have c75 := D5.out.2.2.1; have f75 := D5.out.2.2.2.1; clear hown5 hg5 hat5 hlt5 k1 hcl)
              refine hK.out _ _ (by exact K5) (fun hHeld => ?_)
              clear hK K
              try simp only [Act.put, List.setIfInBounds_toArray, List.set_cons_zero, List.set_cons_succ]
              refine wpAnyH_ready (rs := [22]) (by kernel_rfl) (by simp) ?_
              refine AllReadyH.cons (o := ⟨_, _, _, _, _, _⟩) rfl (fun K hK => ?_) AllReadyH.nil
              go_simp
              refine hK.out _ _ (by exact K5) (fun hHeld => ?_)
              clear hK K
              try simp only [Act.put, List.setIfInBounds_toArray, List.set_cons_zero, List.set_cons_succ]
              refine wpAnyH_ready (rs := [23]) (by kernel_rfl) (by simp) ?_
              refine AllReadyH.cons (o := ⟨_, _, _, _, _, _⟩) rfl (fun K hK => ?_) AllReadyH.nil
              go_simp
              refine hK.out _ _ (by exact K6 _) (fun hHeld => ?_)
              clear hK K
              try simp only [Act.put, List.setIfInBounds_toArray, List.set_cons_zero, List.set_cons_succ]
              refine wpAnyH_done (by kernel_rfl) ?_ _
              go_wp2
              go_roundw
              case rel => exact ⟨j + 1, _, xl ++ [xs j], by omega, by go_num, hide (snoc_get HX.out), hide D5.out.2.2.2.2⟩
              case measure => simp [intOf]; omega
            · go_simp
              refine hK.out _ _ (by exact K2 _) (fun hHeld => ?_)
              clear hK K
              try simp only [Act.put, List.setIfInBounds_toArray, List.set_cons_zero, List.set_cons_succ]
              refine wpAnyH_ready (rs := [1]) (by kernel_rfl) (by simp) ?_
              refine AllReadyH.cons (o := ⟨_, _, _, _, _, _⟩) rfl (fun K hK => ?_) AllReadyH.nil
              go_simp
              refine hK.out _ _ (by exact K2 _) (fun hHeld => ?_)
              clear hK K
              try simp only [Act.put, List.setIfInBounds_toArray, List.set_cons_zero, List.set_cons_succ]
              refine wpAnyH_ready (rs := [21]) (by kernel_rfl) (by simp) ?_
              refine AllReadyH.cons (o := ⟨_, _, _, _, _, _⟩) rfl (fun K hK => ?_) AllReadyH.nil
              (obtain ⟨hle3, css, k1, hcl⟩ := AF.out.2.2.2.2; refine step_append_lies _ rfl (.tmp 55) (.tmp 74) 31 rfl (w.heap.size + 3) 34 i0 (.agg zeroI) 16 192 Tryz.underlying31 hi0 hz0 hz1 hz2 rfl (by decide) _ j (flat css) rfl k1 ⟨w3.heap.size, 0, none⟩ 1 1 (#[b0, b1, b2, b3, b4, b5, b6, b7, b8, b9, b10, b11, b12, b13, b14, b15] : Array Value).toList rfl rfl (World.news_of_block (newB1 w3 _)) (one_mem H3.out) (by omega) (by unfold maxLen; omega) (by omega) (by rw [World.size_alloc']; omega) _ rfl ?_; intro g5 cap5 w5 hown5 hg5 hat5 hlt5; have D5 := hide (hcl g5 cap5 w5 hown5 hg5 hat5); have K5 := D5.out.1; have K6 := D5.out.2.1; have c75 := D5.out.2.2.1; have f75 := D5.out.2.2.2.1; clear hown5 hg5 hat5 hlt5 k1 hcl)
              refine hK.out _ _ (by exact K5) (fun hHeld => ?_)
              clear hK K
              try simp only [Act.put, List.setIfInBounds_toArray, List.set_cons_zero, List.set_cons_succ]
              refine wpAnyH_ready (rs := [22]) (by kernel_rfl) (by simp) ?_
              refine AllReadyH.cons (o := ⟨_, _, _, _, _, _⟩) rfl (fun K hK => ?_) AllReadyH.nil
              go_simp
              refine hK.out _ _ (by exact K5) (fun hHeld => ?_)
              clear hK K
              try simp only [Act.put, List.setIfInBounds_toArray, List.set_cons_zero, List.set_cons_succ]
              refine wpAnyH_ready (rs := [23]) (by kernel_rfl) (by simp) ?_
              refine AllReadyH.cons (o := ⟨_, _, _, _, _, _⟩) rfl (fun K hK => ?_) AllReadyH.nil
              go_simp
              refine hK.out _ _ (by exact K6 _) (fun hHeld => ?_)
              clear hK K
              try simp only [Act.put, List.setIfInBounds_toArray, List.set_cons_zero, List.set_cons_succ]
              refine wpAnyH_done (by kernel_rfl) ?_ _
              go_wp2
              go_roundw
              case rel => exact ⟨j + 1, _, xl ++ [xs j], by omega, by go_num, hide (snoc_get HX.out), hide D5.out.2.2.2.2⟩
              case measure => simp [intOf]; omega
    · obtain rfl : j = n := by omega
      have hlI : ¬ ((j : Int) < (j : Int)) := by omega
      obtain ⟨css, k1, k2, k3⟩ := HL.out.K
      have hsh : ∃ (ao2 : Option Addr) (kn2 kc2 : Nat), nv = .slice ao2 kn2 kc2 := by
        rcases k1.1.2 with ⟨_, h1⟩ | ⟨g, cap, cur, rfl, _⟩
        · have hc0 : css = [] := List.length_eq_zero_iff.1 (by omega)
          exact ⟨_, _, _, k3 hc0⟩
        · exact ⟨_, _, _, rfl⟩
      obtain ⟨ao2, kn2, kc2, rfl⟩ := hsh
      have hone : (iN k t ti num c l (.slice ao2 kn2 kc2) (markG k) (widthG k) T).all (·.oneCell') = true := by simp [Value.oneCell']
      have LI : (Tryz.prog.info? 34).map (·.size) = some (iN k t ti num c l (.slice ao2 kn2 kc2) (markG k) (widthG k) T).size := info_in16
      have LO : Hid (ObjIs wr (w.heap.size + 2) (iN k t ti num c l (.slice ao2 kn2 kc2) (markG k) (widthG k) T) 34) := hide HL.out.o
      have LR := hide HL.out.r
      clear k1 k2 k3
      go_upto_region 17 with fail
      apply wp_region_lit
      refine wpList_load_obj rfl 34 (.tmp 5) rfl (w.heap.size + 2) (iN k t ti num c l (.slice ao2 kn2 kc2) (markG k) (widthG k) T) _ LO.out ?_ Tryz.underlying34 rfl LI ?_
      · simp [go_sem]
      refine wpList_store_obj rfl 34 (.tmp 4) (.tmp 78) rfl (w.heap.size + 1) zeroI (iN k t ti num c l (.slice ao2 kn2 kc2) (markG k) (widthG k) T) LR.out ?_ ?_ LI rfl hone ?_
      · simp [go_sem]
      · simp [go_sem]
      rintro W hW
      have HW := fun q => heap_cell hW.1 q
      have HWG := hide hW.2
      clear hW
      have hfin : ∃ ks' : Value, Ending.returned (.agg (iN k t ti num c l (.slice ao2 kn2 kc2) (markG k) (widthG k) T)) = .returned (.agg (iN k t ti num c l ks' (markG k) (widthG k) T)) ∧ Side w.heap.size (fun _ => False) (fun w2 => ∃ cs : Nat → Array Value, RowN 16 w2 ks' j cs ∧ ∀ q, q < j → R w2 (cs q) (xs q)) W ∧ Below w.heap.size w W :=
        ⟨_, rfl, GvL.done HL.out HX.out HWG.out⟩
      go_wp2
      exact bodyPost_ret (v := .agg (iN k t ti num c l (.slice ao2 kn2 kc2) (markG k) (widthG k) T)) (by simp [results, Tryz.f7, go_sem, HW]) rfl hfin
end Go.Proofs.YtipniinmajoolaaGreatDoor
