/- Some lines of a paragraph: builder.lines, the walk. Conditions: the builder's block holds at most 300 readable bytes. -/
import Derived.Test.YtipniinmajoolaaGreatDoorBl5
namespace Go.Proofs.YtipniinmajoolaaGreatDoor
open Go.RowKit
def tot (l : List Inl) : Nat := (l.map (·.t.size)).sum
theorem tot_take (l : List Inl) (j : Nat) (i : Inl) (h : l[j]? = some i) : tot (l.take (j + 1)) = tot (l.take j) + i.t.size := by
  unfold tot
  rw [List.take_add_one, h]
  simp
theorem tot_le : ∀ (l : List Inl) (j : Nat), tot (l.take j) ≤ tot l
  | [], j => by simp [tot]
  | a :: l, 0 => by simp [tot]
  | a :: l, j + 1 => by
    have := tot_le l j
    unfold tot at this ⊢
    rw [List.take_succ_cons, List.map_cons, List.map_cons, List.sum_cons, List.sum_cons]; omega
/-- A row that line gave, read. -/
def RowK (lv : Value) (css : List (Array Value)) (is : List Inl) (w2 : World) : Prop := RowN 10 w2 lv css.length (fun k => css.getD k #[]) ∧ ∀ k, k < css.length → ∃ x, is[k]? = some x ∧ SInl w2 (css.getD k #[]) x
theorem RowK.load {g c n : Nat} {css : List (Array Value)} {is : List Inl} {w : World} (h : RowK (.slice (some ⟨g, 0, none⟩) n c) css is w) (hn : css.length = n) {j : Nat} (hj : j < n) : w.rangeAt g (j * 10) (css.getD j #[]).toList := by
  rcases h.1 with ⟨h0, _⟩ | ⟨g', cap, e, _, _, _, _, hr⟩
  · omega
  · injection e with e1 _ _
    have e1' : g = g' := by injection e1 with e; injection e
    subst e1'
    exact hr j (by omega)
theorem line_row {bb : Nat} {bv : Value} {N B : Nat} {X : Nat → Prop} {w : World} {lv : Value} {is : List Inl} (h : LSt bb bv N B X w lv is) (hne : is ≠ []) (hX : ∀ g, X g → g < B) :
    ∃ (g c : Nat) (css : List (Array Value)), lv = .slice (some ⟨g, 0, none⟩) is.length c ∧ css.length = is.length ∧ (∀ k, k < css.length → (css.getD k #[]).size = 10 ∧ (css.getD k #[]).all (·.oneCell') = true) ∧ Side B X (RowK lv css is) w := by
  obtain ⟨⟨css, h1, h2, h3⟩, _⟩ := h
  have hl : 0 < css.length := by rw [h2.1]; exact List.length_pos_iff.2 hne
  obtain ⟨g, c, e, _, _⟩ := h1.1.form hl
  refine ⟨g, c, css, by rw [e, h2.1], h2.1, fun k hk => ?_, row_done h1 h2 hl (fun g hg hx => ?_)⟩
  · have hm : css.getD k #[] ∈ css := by rw [List.getD_eq_getElem?_getD, List.getElem?_eq_getElem hk, Option.getD_some]; exact List.getElem_mem hk
    exact ⟨h1.2.1 _ hm, h1.2.2 _ hm⟩
  · have := (h1.lt g hg).1
    have := hX g hx
    omega
theorem pst_new (bb : Nat) (bv : Value) (N : Nat) (w w0 wr : World) (hw : w0 = (w.alloc (.cells (sN 0 ⟨#[]⟩ ⟨#[]⟩ 0 ⟨#[]⟩ false (.slice none 0 0) 0 0) 27)).alloc (.cells (sN 6 ⟨#[]⟩ ⟨#[]⟩ 0 ⟨#[]⟩ false (.slice none 0 0) 0 0) 27))
    (hb : bb < w.heap.size) (hB : BOk bb bv N wr) (hg : w0.grownBy wr (some bb)) : PSt bb bv N w w.heap.size (w.heap.size + 1) (w.heap.size + 2) wr (.slice none 0 0) (.slice none 0 0) 0 [] := by
  have hz : w0.heap.size = w.heap.size + 2 := by rw [hw, World.size_alloc', World.size_alloc']
  have q1 : w0.heap[w.heap.size + 1]? = some (.cells (sN 6 ⟨#[]⟩ ⟨#[]⟩ 0 ⟨#[]⟩ false (.slice none 0 0) 0 0) 27 (0, 0)) := by rw [hw]; exact newB2 _ _ _
  have q2 : w0.heap[w.heap.size]? = some (.cells (sN 0 ⟨#[]⟩ ⟨#[]⟩ 0 ⟨#[]⟩ false (.slice none 0 0) 0 0) 27 (0, 0)) := by
    rw [hw]; exact (Below.heap_alloc _ _ _ (by rw [World.size_alloc']; omega)).trans (newB1 _ _)
  have q3 : w.grownBy w0 (some bb) := by rw [hw]; exact grown_trans (World.grownBy_alloc _ _ _) (World.grownBy_alloc _ _ _)
  refine ⟨hb, Nat.le_refl _, by omega, by omega, ⟨⟨[], OwnR.nil _ _ _ _, Ent.nil, fun _ => rfl⟩, hB, by omega, by rw [← hz]; exact hg.size⟩, grown_trans q3 hg, (hg.block _ (by omega) (fun e => by have := Option.some.inj e; omega)).trans q1, (hg.block _ (by omega) (fun e => by have := Option.some.inj e; omega)).trans q2, Strs.nil _ _ _, fun g e => by simp [Value.ownBlock] at e⟩
theorem Side.avoid {B : Nat} {A A' : Nat → Prop} {K : World → Prop} {w : World} (h : Side B A K w) (hA : ∀ g, A' g → g < B) : Side B A' K w := by
  obtain ⟨F, h1, h2⟩ := h
  exact ⟨F, h1, fun j hj => ⟨(h2 j hj).1, (h2 j hj).2.1, fun q => by have := hA j q; have := (h2 j hj).1; omega⟩⟩
theorem PSt.pcell {bb : Nat} {bv : Value} {N : Nat} {w : World} {rb pb B : Nat} {wr w2 : World} {tv pv : Value} {k : Nat} {is : List Inl} (h : PSt bb bv N w rb pb B wr tv pv k is) (hg : wr.grownBy w2 pv.ownBlock) : w2.cell? ⟨pb, 7, none⟩ = some pv ∧ w2.frozen? ⟨pb, 7, none⟩ = false := by
  have h1 := h.o4
  have h2 := h.L.2.2.2
  have hp : w2.heap[pb]? = some (.cells (sN 6 ⟨#[]⟩ ⟨#[]⟩ 0 ⟨#[]⟩ false pv 0 0) 27 (0, 0)) := (hg.block pb (by omega) (fun e => by have := h.L.own pb e.symm; omega)).trans h.hp
  exact ⟨(heap_cell hp 7).trans rfl, heap_free hp 7⟩
theorem PSt.avlt {bb : Nat} {bv : Value} {N : Nat} {w : World} {rb pb B : Nat} {wr : World} {tv pv : Value} {k : Nat} {is : List Inl} (h : PSt bb bv N w rb pb B wr tv pv k is) : ∀ g, av pv (fun g => tv.ownBlock = some g) g → g < wr.heap.size := fun g hg => by
  rcases hg with q | q
  · exact (h.L.own' g q).2
  · exact (h.T.lt g q).2
theorem put_state2 {bb : Nat} {bv : Value} {N B : Nat} {X : Nat → Prop} {w : World} {lv : Value} {is : List Inl} {c : Array Value} {i : Inl} (S : LSt bb bv N B X w lv is) (hc : Side B (av lv X) (fun w2 => SInl w2 c i) w) (hn : is.length ≤ 200) (hx : ∀ j ∈ is, j.t.size ≤ 1000) (hy : i.t.size ≤ 1000) :
    Calls Tryz.prog 48 #[lv, .agg c] w fun e w' => ∃ g n cap : Nat, e = .returned (.slice (some ⟨g, 0, none⟩) n cap) ∧ LSt bb bv N B X w' (.slice (some ⟨g, 0, none⟩) n cap) (putI is i) ∧ w.grownBy w' lv.ownBlock ∧ (∀ g', (Value.slice (some ⟨g, 0, none⟩) n cap).ownBlock = some g' → lv.ownBlock = some g' ∨ w.heap.size ≤ g') := by
  refine (put_state S hc hn hx hy).mono ?_
  rintro e w' ⟨v', rfl, S', G', F'⟩
  obtain ⟨⟨css, h1, h2, h3⟩, r⟩ := S'
  have hl : 0 < css.length := by rw [h2.1]; exact List.length_pos_iff.2 (putI_ne is i)
  obtain ⟨g, cap, rfl, _, _⟩ := h1.1.form hl
  exact ⟨g, css.length, cap, rfl, ⟨⟨css, h1, h2, h3⟩, r⟩, G', F'⟩
/-- A block that was written, and nothing else. -/
def Wr (w w' : World) (g : Nat) (cs : Array Value) (T : TypeId) : Prop := ObjIs w' g cs T ∧ w.grownBy w' (some g)
theorem Wr.set {w w' : World} {g : Nat} {cs : Array Value} {T : TypeId} (h : Wr w w' g cs T) (k : Nat) (v : Value) (cs' : Array Value) (e : cs.setIfInBounds k v = cs') : Wr w (w'.setCell ⟨g, k, none⟩ v) g cs' T :=
  ⟨by subst e; exact heap_setCell_same w' g k cs T v h.1, grown_trans h.2 (grown_setCell w' g k v)⟩
theorem Wr.new {w : World} {g : Nat} {cs : Array Value} {T : TypeId} (h : ObjIs w g cs T) : Wr w w g cs T := ⟨h, World.grownBy.refl _ _⟩
/-- Ten stores into a node. -/
theorem ten_stored (w : World) (g : Nat) (T : TypeId) (a0 a1 a2 a3 a4 a5 a6 a7 a8 a9 v0 v1 v2 v3 v4 v5 v6 v7 v8 v9 : Value) (h : ObjIs w g #[a0, a1, a2, a3, a4, a5, a6, a7, a8, a9] T) :
    Wr w ((((((((((w.setCell ⟨g, 0, none⟩ v0).setCell ⟨g, 1, none⟩ v1).setCell ⟨g, 2, none⟩ v2).setCell ⟨g, 3, none⟩ v3).setCell ⟨g, 4, none⟩ v4).setCell ⟨g, 5, none⟩ v5).setCell ⟨g, 6, none⟩ v6).setCell ⟨g, 7, none⟩ v7).setCell ⟨g, 8, none⟩ v8).setCell ⟨g, 9, none⟩ v9) g #[v0, v1, v2, v3, v4, v5, v6, v7, v8, v9] T :=
  ((((((((((Wr.new h).set 0 v0 #[v0, a1, a2, a3, a4, a5, a6, a7, a8, a9] rfl).set 1 v1 #[v0, v1, a2, a3, a4, a5, a6, a7, a8, a9] rfl).set 2 v2 #[v0, v1, v2, a3, a4, a5, a6, a7, a8, a9] rfl).set 3 v3 #[v0, v1, v2, v3, a4, a5, a6, a7, a8, a9] rfl).set 4 v4 #[v0, v1, v2, v3, v4, a5, a6, a7, a8, a9] rfl).set 5 v5 #[v0, v1, v2, v3, v4, v5, a6, a7, a8, a9] rfl).set 6 v6 #[v0, v1, v2, v3, v4, v5, v6, a7, a8, a9] rfl).set 7 v7 #[v0, v1, v2, v3, v4, v5, v6, v7, a8, a9] rfl).set 8 v8 #[v0, v1, v2, v3, v4, v5, v6, v7, v8, a9] rfl).set 9 v9 #[v0, v1, v2, v3, v4, v5, v6, v7, v8, v9] rfl
/-- A paragraph's text and its node, given back. -/
theorem lines_end {bb : Nat} {bv : Value} {N : Nat} {w : World} {rb pb B : Nat} {wr W : World} {tv pv : Value} {k : Nat} {is : List Inl} (h : PSt bb bv N w rb pb B wr tv pv k is) (hi : is.length ≤ 100) (hok : IOk 100 is) (hne : is ≠ []) (hg : wr.grownBy W (some rb)) :
    Strs w.heap.size W tv k 40 ∧ Side w.heap.size (fun g => tv.ownBlock = some g) (fun w2 => Inls 10 SInl w2 pv is.length (fun k => is.getD k .soft)) W ∧ BOk bb bv N W ∧ w.grownBy W (some bb) := by
  have l1 := h.o1
  have l2 := h.o2
  have l3 := h.o3
  have l4 := h.o4
  have hL := h.L.other hg (by omega) (by omega)
  have hT : Strs B W tv k 40 := h.T.move (fun g e => hg.block g (h.T.lt g e).2 (fun e2 => by have := Option.some.inj e2; have := (h.T.lt g e).1; omega)) (Nat.le_refl _)
  obtain ⟨⟨css, q1, q2, q3⟩, q4, _⟩ := hL
  have hl : 0 < css.length := by rw [q2.1]; exact List.length_pos_iff.2 hne
  have hrow := row_done q1 q2 hl (fun g e1 e2 => h.D g e1 e2)
  have hB : w.heap.size ≤ B := by omega
  refine ⟨hT.move (fun _ _ => rfl) hB, (hrow.base hB).mono fun w2 hw => ⟨hi, fun k hk => ?_, fun k => css.getD k #[], by rw [← q2.1]; exact hw.1, fun k hk => ?_⟩, q4, grown_own h.G hg (fun g e => by have := Option.some.inj e; omega)⟩
  · rw [List.getD_eq_getElem?_getD, List.getElem?_eq_getElem hk, Option.getD_some]
    exact hok.ok (Nat.le_refl _) _ (List.getElem_mem hk)
  · obtain ⟨x, h1, h2⟩ := hw.2 k (by rw [q2.1]; exact hk)
    rw [List.getD_eq_getElem?_getD, h1, Option.getD_some]
    exact h2
/-- What lines gives. -/
def LinesP (bb : Nat) (bv : Value) (N : Nat) (w : World) (e : Ending) (w' : World) : Prop := ∃ (tv pv : Value) (k : Nat) (is : List Inl), e = .returned (.tuple #[tv, .agg (sN 6 ⟨#[]⟩ ⟨#[]⟩ 0 ⟨#[]⟩ false pv 0 0)]) ∧ 0 < k ∧ k ≤ 3 ∧ is ≠ [] ∧ Strs w.heap.size w' tv k 40 ∧
  Side w.heap.size (fun g => tv.ownBlock = some g) (fun w2 => Inls 10 SInl w2 pv is.length (fun k => is.getD k .soft)) w' ∧ BOk bb bv N w' ∧ w.grownBy w' (some bb)
theorem info_sn3 : (Tryz.prog.info? 9).map (fun i => (i.zero, i.size, i.bytes)) = some (some (.string ⟨#[]⟩), 1, 16) := info_str
set_option maxHeartbeats 4000000 in
set_option maxRecDepth 100000 in
theorem lines_any (bb : Nat) (bv : Value) (N : Nat) (w : World) (hB : BOk bb bv N w) :
    Calls Tryz.prog 36 #[.pointer (some ⟨bb, 0, none⟩)] w (LinesP bb bv N w) := by
  have hbl := hB.lt
  have L1 := hide (fun w1 h => line_any bb bv N w1 h)
  have N3 := hide (fun w1 h => next_any bb bv N 3 w1 (by omega) (by omega) h)
  have HB := hide hB
  clear hB
  obtain ⟨i0, hi0, hz0, hz1, hz2⟩ := info_parts info_sn3
  go_enter Tryz.func36, Tryz.ntmps36
  go_wp2_with (first | (go_at_call 14; refine (N3.out _ ((HB.out.alloc _).alloc _)).mono ?_; rintro e w2 ⟨r, rfl, hr, hB2, hg2⟩; have P0 := hide (pst_new bb bv N w _ w2 rfl hbl hB2 hg2); clear hB2 hg2))
  go_loopw [5, 15] (fun tv kv wr => ∃ (k : Nat) (pv : Value) (is : List Inl), k ≤ r + 1 ∧ kv = .int .i64 k ∧ Hid (PSt bb bv N w w.heap.size (w.heap.size + 1) (w.heap.size + 2) wr tv pv k is) ∧ Hid (is.length ≤ 6 * k ∧ IOk (16 * k) is ∧ (0 < k → is ≠ []))) (fun _ kv _ => r + 1 - (intOf kv).toNat)
  case atStart => exact ⟨0, _, [], by omega, rfl, P0.out, by simp, ⟨by simp, fun i h => by simp at h⟩, fun h => absurd h (by omega)⟩
  case round =>
    obtain ⟨k, pv, is, hk, rfl, P, I⟩ := hrel
    clear P0 HB
    by_cases hlt : k < r + 1
    · have hltI : (k : Int) < 1 + (r : Int) := by omega
      by_cases hk0 : 0 < k
      case' pos =>
        have hk0I : (0 : Int) < (k : Int) := by omega
        go_wp2_with (first | (go_at_call 32; refine (L1.out _ P.out.L.2.1).mono ?_; rintro e w3 ⟨s, lv, is1, rfl, hs, S1, hg3, hne, hle, hok⟩; obtain ⟨gl, cl, css, rfl, hcl, hcz, hrow⟩ := line_row S1 hne (fun _ h => h.elim); have P1 := hide (P.out.step S1.2.1 hg3); have K1 := hide ((hrow.avoid P.out.avlt).base P.out.L.2.2.2); have c7 := (P1.out.pcell (World.grownBy.refl _ _)).1; have J := hide (And.intro hcl hcz); have HOK := hide hok; have I1 := hide I.out; clear S1 hg3 hrow hcl hcz P I hok) | (go_at_call 48; refine (put_state2 P1.out.L (Side.pure (fun _ => ⟨_, rfl, .inl ⟨rfl, rfl⟩⟩)) (by have := I1.out.1; omega) (fun j hj => Nat.le_trans (I1.out.2.1.size j hj) (by omega)) (by show 0 ≤ 1000; omega) (i := .soft)).mono ?_; rintro e w4 ⟨g4, n4, d4, rfl, S4, G4, F4⟩; obtain ⟨c7b, f7b⟩ := P1.out.pcell G4; have P2 := hide (P1.out.kids S4 G4 F4); have K2 := hide ((K1.out.grow G4 F4).step (grown_setCell w4 (w.heap.size + 1) 7 (.slice (some ⟨g4, 0, none⟩) n4 d4)) (by omega)); have I2 := hide (And.intro (Nat.le_trans (putI_len is .soft) (Nat.succ_le_succ I1.out.1)) ((I1.out.2.1.put (i := .soft) (.inr ⟨by show 0 ≤ 100; omega, .inl rfl⟩)).mono (T' := 16 * k) (by show 16 * k + 0 ≤ _; omega))); clear S4 G4 F4 P1 K1 I1 c7))
        clear c7b f7b
      case' neg =>
        have hk0I : ¬ ((0 : Int) < (k : Int)) := by omega
        go_wp2_with (go_at_call 32; refine (L1.out _ P.out.L.2.1).mono ?_; rintro e w3 ⟨s, lv, is1, rfl, hs, S1, hg3, hne, hle, hok⟩; obtain ⟨gl, cl, css, rfl, hcl, hcz, hrow⟩ := line_row S1 hne (fun _ h => h.elim); have P1 := hide (P.out.step S1.2.1 hg3); have K1 := hide ((hrow.avoid P.out.avlt).base P.out.L.2.2.2); have c7 := (P1.out.pcell (World.grownBy.refl _ _)).1; have J := hide (And.intro hcl hcz); have HOK := hide hok; have I1 := hide I.out; clear S1 hg3 hrow hcl hcz P I hok)
        have P2 := P1
        have K2 := K1
        have I2 := hide (And.intro (Nat.le_succ_of_le I1.out.1) I1.out.2.1)
        clear P1 K1 I1 c7
      all_goals
        clear hk0 hk0I
        go_loopw [32] (fun jv wr2 => ∃ (j : Nat) (pv2 : Value) (is2 : List Inl), j ≤ is1.length ∧ jv = .int .i64 j ∧ Hid (PSt bb bv N w w.heap.size (w.heap.size + 1) (w.heap.size + 2) wr2 u5 pv2 k is2) ∧ Hid (Side (w.heap.size + 2) (av pv2 fun g => u5.ownBlock = some g) (RowK (.slice (some ⟨gl, 0, none⟩) is1.length cl) css is1) wr2) ∧ Hid (is2.length ≤ 6 * k + 1 + j ∧ IOk (16 * k + tot (is1.take j)) is2 ∧ (0 < j → is2 ≠ []))) (fun jv _ => is1.length - (intOf jv).toNat)
        case atStart => exact ⟨0, _, _, by omega, rfl, P2.out, K2.out, I2.out.1, I2.out.2.mono (by omega), fun h => absurd h (by omega)⟩
        case round =>
          obtain ⟨j, pv2, is2, hj, rfl, P3, K3, I3⟩ := hrel
          clear P2 K2 I2
          by_cases hlj : j < is1.length
          · have hljI : (j : Int) < (is1.length : Int) := by omega
            have HLD := hide (K3.out.now.load J.out.1 hlj)
            obtain ⟨q1, q2⟩ := J.out.2 j (by rw [J.out.1]; exact hlj)
            have H10 := hide q1
            have H1c := hide q2
            have HI : ∃ i, is1[j]? = some i ∧ Side (w.heap.size + 2) (av pv2 fun g => u5.ownBlock = some g) (fun w2 => SInl w2 (css.getD j #[]) i) wr := by
              obtain ⟨i, hi, _⟩ := K3.out.now.2 j (by rw [J.out.1]; exact hlj)
              refine ⟨i, hi, K3.out.mono fun w2 h => ?_⟩
              obtain ⟨i', hi', h'⟩ := h.2 j (by rw [J.out.1]; exact hlj)
              rw [hi] at hi'
              rw [Option.some.inj hi']
              exact h'
            obtain ⟨C, hC⟩ : ∃ C, C = css.getD j #[] := ⟨_, rfl⟩
            rw [← hC] at HLD H10 H1c HI
            obtain ⟨i, hi, hS⟩ := HI
            have HS := hide (hS.alloc (.cells C 27))
            have P4 := hide (P3.out.alloc (.cells C 27))
            have K4 := hide (K3.out.alloc (.cells C 27))
            have him : i ∈ is1 := List.mem_of_getElem? hi
            have HT := hide (tot_take is1 j i hi)
            have hts := HOK.out.size i him
            have hgd := hide (HOK.out.2 i him)
            obtain ⟨c7, _⟩ := P4.out.pcell (World.grownBy.refl _ _)
            clear hC q1 q2 hS hi him P3 K3
            go_wp2_with (first | (refine wpList_load_mid rfl 27 (.tmp 34) rfl gl (j * 10) rfl C.toList _ HLD.out Tryz.underlying27 rfl (by rw [Array.length_toList, H10.out]; exact info_sn10) ?_) | (refine wpList_store_new rfl 27 (.tmp 10) (.tmp 35) rfl _ _ C rfl rfl (by rw [H10.out]; exact info_sn10) (by rw [H10.out]; rfl) H1c.out ?_) | (refine wpList_load_new rfl 27 (.tmp 10) rfl _ C _ rfl Tryz.underlying27 rfl (by rw [H10.out]; exact info_sn10) ?_) | (go_at_call 48; refine (put_state2 P4.out.L HS.out (by have := I3.out.1; omega) (fun j' hj' => Nat.le_trans (I3.out.2.1.size j' hj') (by have := tot_le is1 j; have := HOK.out.1; unfold tot at *; omega)) (by omega)).mono ?_; rintro e w4 ⟨g4, n4, d4, rfl, S4, G4, F4⟩; obtain ⟨c7b, f7b⟩ := P4.out.pcell G4; have P5 := hide (P4.out.kids S4 G4 F4); have K5 := hide ((K4.out.grow G4 F4).step (grown_setCell w4 (w.heap.size + 1) 7 (.slice (some ⟨g4, 0, none⟩) n4 d4)) (by omega)); have I5 := hide (And.intro (Nat.le_trans (putI_len is2 i) (Nat.succ_le_succ I3.out.1)) (And.intro ((I3.out.2.1.put hgd.out).mono (T' := 16 * k + tot (is1.take (j + 1))) (by rw [HT.out]; omega)) (fun (_ : 0 < j + 1) => putI_ne is2 i))); clear S4 G4 F4 P4 K4 I3 c7))
            go_roundw
            case rel => exact ⟨j + 1, _, _, by omega, by go_num, P5.out, K5.out, I5.out⟩
            case measure => simp [intOf]; omega
          · obtain rfl : j = is1.length := by omega
            have hljI : ¬ ((is1.length : Int) < (is1.length : Int)) := by omega
            obtain ⟨ss, s1, s2, s3⟩ := P3.out.T
            have H1 := hide s1
            have H2 := hide (s2.alloc (.cells #[.string s] 9))
            have H3 := hide s3
            have hBs := P3.out.L.2.2.2
            clear s1 s2 s3 hlj
            go_wp2_with (at_builtin; refine wpList_append_lies _ rfl (.tmp 42) (.tmp 44) 40 rfl (w.heap.size + 2) 9 i0 (.string ⟨#[]⟩) 1 16 Tryz.underlying40 hi0 hz0 hz1 hz2 rfl (by decide) _ k (ss.map .string) rfl H2.out ⟨wr.heap.size, 0, none⟩ 1 1 [.string s] rfl rfl (cellOne _ _ _) (by simp [Value.oneCell']) (by omega) (by unfold maxLen; omega) (by omega) (by rw [World.size_alloc']; omega) (wr.heap.size + 1) (by simp) ?_; intro g2 cap2 w5 hown2 hg2 hat2 hlt2; have P5 := hide (P3.out.text hs H1.out H3.out hown2 hg2 hat2); clear hown2 hg2 hat2 hlt2)
            go_roundw
            case rel =>
              obtain ⟨q1, q2, q3⟩ := I3.out
              refine ⟨k + 1, pv2, is2, by omega, by go_num, P5.out, by omega, q2.mono ?_, fun _ => q3 (List.length_pos_iff.2 hne)⟩
              rw [List.take_length]
              have := HOK.out.1
              unfold tot; omega
            case measure => simp [intOf]; omega
    · obtain rfl : k = r + 1 := by omega
      have hltI : ¬ (((r + 1 : Nat) : Int) < 1 + (r : Int)) := by omega
      have hpv : ∃ g n cap : Nat, pv = .slice (some ⟨g, 0, none⟩) n cap := by
        obtain ⟨⟨css, h1, h2, _⟩, _⟩ := P.out.L
        have hl : 0 < css.length := by rw [h2.1]; exact List.length_pos_iff.2 (I.out.2.2 (by omega))
        obtain ⟨g, cap, e, _⟩ := h1.1.form hl
        exact ⟨g, _, cap, e⟩
      obtain ⟨gp, np, dp, rfl⟩ := hpv
      have hp := P.out.hp
      have hr2 := P.out.hr
      have p0 := heap_cell hp 0
      have p1 := heap_cell hp 1
      have p2 := heap_cell hp 2
      have p3 := heap_cell hp 3
      have p4 := heap_cell hp 4
      have p5 := heap_cell hp 5
      have p6 := heap_cell hp 6
      have p7 := heap_cell hp 7
      have p8 := heap_cell hp 8
      have p9 := heap_cell hp 9
      have r0 := heap_cell hr2 0
      have r1 := heap_cell hr2 1
      have r2 := heap_cell hr2 2
      have r3 := heap_cell hr2 3
      have r4 := heap_cell hr2 4
      have r5 := heap_cell hr2 5
      have r6 := heap_cell hr2 6
      have r7 := heap_cell hr2 7
      have r8 := heap_cell hr2 8
      have r9 := heap_cell hr2 9
      have rf := fun j => heap_free hr2 j
      clear hp hr2
      go_wp2_with fail
      go_region
      all_goals
        have H10 := ten_stored wr w.heap.size _ _ _ _ _ _ _ _ _ _ _ (.int .i64 6) (.string ⟨#[]⟩) (.string ⟨#[]⟩) (.int .i64 0) (.string ⟨#[]⟩) (.bool false) (.slice none 0 0) (.slice (some ⟨gp, 0, none⟩) np dp) (.int .i64 0) (.int .i64 0) P.out.hr
        clear p0 p1 p2 p3 p4 p5 p6 p7 p8 p9 r0 r1 r2 r3 r4 r5 r6 r7 r8 r9 rf
        obtain ⟨hW, hgW⟩ := H10
        generalize ((((((((((wr.setCell ⟨w.heap.size, 0, none⟩ (.int .i64 6)).setCell ⟨w.heap.size, 1, none⟩ (.string ⟨#[]⟩)).setCell ⟨w.heap.size, 2, none⟩ (.string ⟨#[]⟩)).setCell ⟨w.heap.size, 3, none⟩ (.int .i64 0)).setCell ⟨w.heap.size, 4, none⟩ (.string ⟨#[]⟩)).setCell ⟨w.heap.size, 5, none⟩ (.bool false)).setCell ⟨w.heap.size, 6, none⟩ (.slice none 0 0)).setCell ⟨w.heap.size, 7, none⟩ (.slice (some ⟨gp, 0, none⟩) np dp)).setCell ⟨w.heap.size, 8, none⟩ (.int .i64 0)).setCell ⟨w.heap.size, 9, none⟩ (.int .i64 0)) = W at hW hgW ⊢
        have HW := fun j => heap_cell hW j
        have HP : Hid (LinesP bb bv N w (.returned (.tuple #[u5, .agg (sN 6 ⟨#[]⟩ ⟨#[]⟩ 0 ⟨#[]⟩ false (.slice (some ⟨gp, 0, none⟩) np dp) 0 0)])) W.drew) := by
          obtain ⟨I1, I2, I3⟩ := I.out
          exact ⟨u5, _, r + 1, is, rfl, by omega, by omega, I3 (by omega), lines_end P.out (by omega) (I2.mono (by omega)) (I3 (by omega)) (grown_drew hgW)⟩
        clear hW hgW P I
        go_wp2
        exact bodyPost_ret (v := .tuple #[u5, .agg (sN 6 ⟨#[]⟩ ⟨#[]⟩ 0 ⟨#[]⟩ false (.slice (some ⟨gp, 0, none⟩) np dp) 0 0)]) (by simp [results, Tryz.results36, go_sem, HW]) rfl HP.out
end Go.Proofs.YtipniinmajoolaaGreatDoor
