/- Inlines put behind inlines, texts put together: laws.put. Conditions: at most 200 nodes. -/
import Derived.Test.YtipniinmajoolaaGreatDoorTr2
import Derived.Test.YtipniinmajoolaaGreatDoorBl1
namespace Go.Proofs.YtipniinmajoolaaGreatDoor
open Go.RowKit
theorem info_sn : (Tryz.prog.info? 27).map (fun i => (i.zero, i.size, i.bytes)) = some (some (.agg (sN 0 ⟨#[]⟩ ⟨#[]⟩ 0 ⟨#[]⟩ false (.slice none 0 0) 0 0)), 10, 136) := by kernel_rfl
/-- What put makes of the list. -/
def putI (is : List Inl) (i : Inl) : List Inl := match is.getLast?, i with
  | some (.plain x), .plain y => is.dropLast ++ [.plain (x ++ y)]
  | _, _ => is ++ [i]
theorem own_size {w : World} {B : Nat} {T : TypeId} {sz : Nat} {v : Value} {css : List (Array Value)} {k : Nat} {g cap : Nat} {a : Array Value} {j : Nat} {u : Value} (h : OwnR w B T sz v css) (hv : v = .slice (some ⟨g, 0, none⟩) css.length cap) (hk : css[k]? = some a) (hj : a.toList[j]? = some u) : w.cell? ⟨g, k * sz + j, none⟩ = some u := by
  have hl := (List.getElem?_eq_some_iff.1 hk).1
  rcases h.row (w2 := w) (by omega) (fun _ _ => rfl) with ⟨h0, _⟩ | ⟨g', cap', e, _, _, _, _, hr⟩
  · omega
  · rw [hv] at e
    injection e with e1 _ _
    have e1' : g = g' := by injection e1 with e; injection e
    subst e1'
    have h2 := hr k hl
    have h3 : css.getD k #[] = a := by rw [List.getD_eq_getElem?_getD, hk, Option.getD_some]
    simp only [h3] at h2
    exact h2 j u hj
/-- What is said of the row behind put. -/
def PutR (B : Nat) (v : Value) (css : List (Array Value)) (w : World) (e : Ending) (w' : World) : Prop := ∃ v', e = .returned v' ∧ OwnR w' B 27 10 v' css ∧ w.grownBy w' v.ownBlock ∧ (∀ g, v'.ownBlock = some g → v.ownBlock = some g ∨ w.heap.size ≤ g)
theorem RowN.one {sz : Nat} {w : World} {ks : Value} {n : Nat} {cs : Nat → Array Value} (h : RowN sz w ks n cs) : ks.oneCell' = true := by
  rcases h with ⟨_, rfl⟩ | ⟨g, cap, rfl, _⟩ <;> rfl
theorem sn_one {k : Int} {t ti : ByteArray} {n : Int} {c : ByteArray} {l : Bool} {ks : Value} {f o : Int} (h : ks.oneCell' = true) : (sN k t ti n c l ks f o).all (·.oneCell') = true := by
  simp [Value.oneCell'] at h ⊢
  exact h
theorem put_end {B : Nat} {v : Value} {css : List (Array Value)} {c x y : Array Value} {T U : TypeId} {w w2 : World} {g cap m : Nat} (hO : OwnR w B 27 10 v css) (hm : m = css.length) (hc : c.size = 10) (h1 : c.all (·.oneCell') = true)
    (hown : w2.ownsRow B 27 10 (.slice (some ⟨g, 0, none⟩) (m + 1) cap) (m + 1) (flat css ++ c.toList)) (hg : ((w.alloc (.cells x T)).alloc (.cells y U)).grownBy w2 v.ownBlock) (hat : v.ownBlock = some g ∨ g = w.heap.size + 1 + 1) :
    PutR B v (css ++ [c]) w (.returned (.slice (some ⟨g, 0, none⟩) (m + 1) cap)) w2 := by
  subst hm
  refine ⟨_, rfl, OwnR.snoc hown rfl hO.2.1 hO.2.2 hc h1, grown_trans (grown_trans (World.grownBy_alloc w _ _) (World.grownBy_alloc _ _ _)) hg, fun g' h => ?_⟩
  have e : g = g' := by simpa [Value.ownBlock] using h
  subst e
  rcases hat with h | h
  · exact .inl h
  · right; omega
set_option maxHeartbeats 2000000 in
set_option maxRecDepth 100000 in
theorem put_first (B : Nat) (c : Array Value) (i : Inl) (w : World) (hc : SInl w c i) (hB : B ≤ w.heap.size) :
    Calls Tryz.prog 48 #[.slice none 0 0, .agg c] w (PutR B (.slice none 0 0) [c] w) := by
  obtain ⟨i0, hi0, hz0, hz1, hz2⟩ := info_parts info_sn
  obtain ⟨ks, rfl, hks⟩ := hc
  have hk1 := hide (sn_one (k := i.k) (t := i.t) (ti := ⟨#[]⟩) (n := 0) (c := ⟨#[]⟩) (l := false) (f := 0) (o := 0) hks.one)
  clear hks
  go_enter Tryz.func48, Tryz.ntmps48
  go_wp2_with (at_builtin; refine wpList_append_lies _ rfl (.tmp 35) (.tmp 37) 25 rfl B 27 i0 _ 10 136 Tryz.underlying25 hi0 hz0 hz1 hz2 rfl (by decide) _ 0 [] rfl (World.ownsRow_nil _ _ _ _) ⟨w.heap.size + 1, 0, none⟩ 1 1 (sN i.k i.t ⟨#[]⟩ 0 ⟨#[]⟩ false ks 0 0).toList rfl rfl (World.news_of_block (cs := sN i.k i.t ⟨#[]⟩ 0 ⟨#[]⟩ false ks 0 0) (newB2 _ _ _)) (one_mem hk1.out) (by omega) (by unfold maxLen; omega) (by omega) (by rw [World.size_alloc', World.size_alloc']; omega) (w.heap.size + 1 + 1) (by simp) ?_; intro g2 cap2 w2 hown2 hg2 hat2 hlt2; have HE := hide (put_end (OwnR.nil w B _ 10) rfl rfl hk1.out hown2 hg2 hat2); clear hown2 hg2 hat2)
  go_ret
  exact HE.out
set_option maxHeartbeats 2000000 in
set_option maxRecDepth 100000 in
theorem put_more (B g k cap : Nat) (css : List (Array Value)) (c : Array Value) (i : Inl) (q : Int) (w : World) (hn : k ≤ 200) (hk : css.length = k + 1) (hO : OwnR w B 27 10 (.slice (some ⟨g, 0, none⟩) (k + 1) cap) css)
    (hc : SInl w c i) (hB : B ≤ w.heap.size) (hq : w.cell? ⟨g, k * 10, none⟩ = some (.int .i64 q)) (hno : (i.k == 20) = false ∨ (i.k == 20) = true ∧ (q == 20) = false) :
    Calls Tryz.prog 48 #[.slice (some ⟨g, 0, none⟩) (k + 1 : Nat) cap, .agg c] w (PutR B (.slice (some ⟨g, 0, none⟩) (k + 1) cap) (css ++ [c]) w) := by
  obtain ⟨i0, hi0, hz0, hz1, hz2⟩ := info_parts info_sn
  obtain ⟨ks, rfl, hks⟩ := hc
  have hk1 := hide (sn_one (k := i.k) (t := i.t) (ti := ⟨#[]⟩) (n := 0) (c := ⟨#[]⟩) (l := false) (f := 0) (o := 0) hks.one)
  have HO := hide hO
  have HK := hide hk
  have hq2 := cell_old hq (.cells (sN i.k i.t ⟨#[]⟩ 0 ⟨#[]⟩ false ks 0 0) 27)
  have HL : Hid ((((w.alloc (.cells (sN i.k i.t ⟨#[]⟩ 0 ⟨#[]⟩ false ks 0 0) 27)).alloc (.cells (sN i.k i.t ⟨#[]⟩ 0 ⟨#[]⟩ false ks 0 0) 27))).ownsRow B 27 10 (.slice (some ⟨g, 0, none⟩) (k + 1) cap) (k + 1) (flat css)) := by
    have h := (hO.1.alloc (.cells (sN i.k i.t ⟨#[]⟩ 0 ⟨#[]⟩ false ks 0 0) 27)).alloc (.cells (sN i.k i.t ⟨#[]⟩ 0 ⟨#[]⟩ false ks 0 0) 27)
    rw [hk] at h; exact h
  clear hks hk hO
  rcases hno with hno | ⟨hno, hno2⟩
  all_goals
    go_enter Tryz.func48, Tryz.ntmps48
    go_wp2_with (at_builtin; refine wpList_append_lies _ rfl (.tmp 35) (.tmp 37) 25 rfl B 27 i0 _ 10 136 Tryz.underlying25 hi0 hz0 hz1 hz2 rfl (by decide) _ (k + 1) (flat css) rfl HL.out ⟨w.heap.size + 1, 0, none⟩ 1 1 (sN i.k i.t ⟨#[]⟩ 0 ⟨#[]⟩ false ks 0 0).toList rfl rfl (World.news_of_block (cs := sN i.k i.t ⟨#[]⟩ 0 ⟨#[]⟩ false ks 0 0) (newB2 _ _ _)) (one_mem hk1.out) (by omega) (by unfold maxLen; omega) (by omega) (by rw [World.size_alloc', World.size_alloc']; omega) (w.heap.size + 1 + 1) (by simp) ?_; intro g2 cap2 w2 hown2 hg2 hat2 hlt2; have HE := hide (put_end HO.out HK.out.symm rfl hk1.out hown2 hg2 hat2); clear hown2 hg2 hat2)
    go_ret
    exact HE.out
set_option maxHeartbeats 2000000 in
set_option maxRecDepth 100000 in
theorem put_text (g k cap : Nat) (x y : ByteArray) (c : Array Value) (w : World) (hn : k ≤ 200) 
    (hc : SInl w c (.plain y)) (hq : w.cell? ⟨g, k * 10, none⟩ = some (.int .i64 20)) (ht : w.cell? ⟨g, k * 10 + 1, none⟩ = some (.string x)) (hf : w.frozen? ⟨g, k * 10 + 1, none⟩ = false) (hx : x.size ≤ 1000) (hy : y.size ≤ 1000) :
    Calls Tryz.prog 48 #[.slice (some ⟨g, 0, none⟩) (k + 1 : Nat) cap, .agg c] w fun e w' => e = .returned (.slice (some ⟨g, 0, none⟩) (k + 1 : Nat) cap) ∧ ∃ c0, w' = ((w.alloc c0).setCell ⟨g, k * 10 + 1, none⟩ (.string (x ++ y))).drew := by
  obtain ⟨ks, hc1, hks⟩ := hc
  simp only [Inl.k, Inl.t] at hc1
  subst hc1
  rcases hks with ⟨_, rfl⟩ | ⟨_, _, _, h, _⟩
  · have hq2 := cell_old hq (.cells (sN 20 y ⟨#[]⟩ 0 ⟨#[]⟩ false (.slice none 0 0) 0 0) 27)
    have ht2 := cell_old ht (.cells (sN 20 y ⟨#[]⟩ 0 ⟨#[]⟩ false (.slice none 0 0) 0 0) 27)
    have hf2 := free_old ht hf (.cells (sN 20 y ⟨#[]⟩ 0 ⟨#[]⟩ false (.slice none 0 0) 0 0) 27)
    go_enter Tryz.func48, Tryz.ntmps48
    go_wp2
    go_region
    all_goals
      go_wp2
      go_ret
      exact ⟨rfl, _, rfl⟩
  · simp [Inl.n] at h
theorem Ent.init {ι : Type} {R : World → Array Value → ι → Prop} {B : Nat} {A : Nat → Prop} {css : List (Array Value)} {xs : List ι} {c : Array Value} {x : ι} {w : World} (h : Ent R B A (css ++ [c]) (xs ++ [x]) w) :
    Ent R B A css xs w ∧ Side B A (fun w2 => R w2 c x) w := by
  have hl : css.length = xs.length := by have := h.1; simp at this; exact this
  refine ⟨⟨hl, fun k c' x' hk hx => ?_⟩, ?_⟩
  · have h1 := (List.getElem?_eq_some_iff.1 hk).1
    exact h.2 k c' x' (by rw [List.getElem?_append_left h1]; exact hk) (by rw [List.getElem?_append_left (by omega)]; exact hx)
  · exact h.2 css.length c x (by simp) (by rw [hl]; simp)
/-- The row behind a text that was put to the last one's. -/
theorem own_text {w w' : World} {B g k cap : Nat} {css : List (Array Value)} {x z : ByteArray} (hk : css.length = k) (h : OwnR w B 27 10 (.slice (some ⟨g, 0, none⟩) (k + 1) cap) (css ++ [sN 20 x ⟨#[]⟩ 0 ⟨#[]⟩ false (.slice none 0 0) 0 0]))
    (hb : ∀ cur, w.heap[g]? = some (.cells cur 27 (0, 0)) → w'.heap[g]? = some (.cells (cur.setIfInBounds (k * 10 + 1) (.string z)) 27 (0, 0))) :
    OwnR w' B 27 10 (.slice (some ⟨g, 0, none⟩) (k + 1) cap) (css ++ [sN 20 z ⟨#[]⟩ 0 ⟨#[]⟩ false (.slice none 0 0) 0 0]) := by
  have hz : ∀ c ∈ css, c.size = 10 := fun c hc => h.2.1 c (List.mem_append_left _ hc)
  have ho : ∀ c ∈ css, c.all (·.oneCell') = true := fun c hc => h.2.2 c (List.mem_append_left _ hc)
  refine OwnR.snoc (n := k + 1) ?_ (by rw [hk]) hz ho rfl (by simp [Value.oneCell'])
  have hfl := flat_len hz
  rcases h.1.2 with ⟨h0, _⟩ | ⟨g', cap', cur, e, hbg, hg, hnc, hcm, hcs, ht⟩
  · cases h0
  · injection e with e1 e2 e3
    have e1' : g = g' := by injection e1 with e; injection e
    subst e1' e3
    refine ⟨by rw [List.length_append, hfl, hk]; show k * 10 + 10 = _; omega, .inr ⟨g, cap, _, rfl, hbg, hb cur hg, by simpa [hk] using hnc, hcm, by simpa using hcs, ?_⟩⟩
    rw [Array.toList_setIfInBounds, List.take_set]
    rw [List.length_append, hk] at ht
    have ht' : cur.toList.take ((k + 1) * 10) = flat css ++ (sN 20 x ⟨#[]⟩ 0 ⟨#[]⟩ false (.slice none 0 0) 0 0).toList := by rw [flat_snoc]; exact ht
    rw [ht', List.set_append_right _ _ (by rw [hfl, hk]; omega), hfl, hk, Nat.add_sub_cancel_left]
    rfl
theorem av_next {v v' : Value} {X : Nat → Prop} {n : Nat} (hf : ∀ g, v'.ownBlock = some g → v.ownBlock = some g ∨ n ≤ g) : ∀ g, av v' X g → av v X g ∨ n ≤ g := fun g h => by
  rcases h with h | h
  · rcases hf g h with q | q
    · exact .inl (.inl q)
    · exact .inr q
  · exact .inl (.inr h)
/-- What put gives. -/
def PutQ (B : Nat) (X : Nat → Prop) (v : Value) (is : List Inl) (w : World) (e : Ending) (w' : World) : Prop := ∃ v' css', e = .returned v' ∧ OwnR w' B 27 10 v' css' ∧ Ent SInl B (av v' X) css' is w' ∧ w.grownBy w' v.ownBlock ∧ (∀ g, v'.ownBlock = some g → v.ownBlock = some g ∨ w.heap.size ≤ g)
theorem putR_q {B : Nat} {X : Nat → Prop} {v : Value} {css : List (Array Value)} {is : List Inl} {c : Array Value} {i : Inl} {w w' : World} {e : Ending} (h : PutR B v (css ++ [c]) w e w') (hE : Ent SInl B (av v X) css is w)
    (hc : Side B (av v X) (fun w2 => SInl w2 c i) w) : PutQ B X v (is ++ [i]) w e w' := by
  obtain ⟨v', rfl, hO, hg, hf⟩ := h
  refine ⟨v', css ++ [c], rfl, hO, ?_, hg, hf⟩
  have hE2 := hE.snoc hc
  exact hE2.keep hg.size (fun j _ hj hne => hg.block j hj (fun e => hne (.inl e.symm))) (av_next hf)
theorem SInl.kind {w : World} {c : Array Value} {i : Inl} (h : SInl w c i) : c.toList[0]? = some (.int .i64 i.k) := by
  obtain ⟨ks, rfl, _⟩ := h; rfl
theorem putI_no {is : List Inl} {i j : Inl} (h : i.k ≠ 20 ∨ j.k ≠ 20) : putI (is ++ [j]) i = is ++ [j] ++ [i] := by
  unfold putI
  rw [List.getLast?_append]
  cases j <;> cases i <;> simp [Inl.k] at h ⊢
theorem put_any (B : Nat) (X : Nat → Prop) (v : Value) (css : List (Array Value)) (is : List Inl) (c : Array Value) (i : Inl) (w : World) (hn : css.length ≤ 200) (hO : OwnR w B 27 10 v css) (hE : Ent SInl B (av v X) css is w) (hv : css = [] → v = .slice none 0 0)
    (hc : Side B (av v X) (fun w2 => SInl w2 c i) w) (hB : B ≤ w.heap.size) (hx : ∀ j ∈ is, j.t.size ≤ 1000) (hy : i.t.size ≤ 1000) :
    Calls Tryz.prog 48 #[v, .agg c] w (PutQ B X v (putI is i) w) := by
  rcases List.eq_nil_or_concat css with rfl | ⟨css0, c0, rfl⟩
  · have his : is = [] := List.eq_nil_of_length_eq_zero hE.1.symm
    subst his
    rw [hv rfl] at hE hc ⊢
    exact (put_first B c i w hc.now hB).mono fun e w' h => putR_q (css := []) h hE hc
  · rw [List.concat_eq_append] at *
    have hil : is.length = css0.length + 1 := by have := hE.1; simp at this; omega
    rcases List.eq_nil_or_concat is with rfl | ⟨is0, i0, rfl⟩
    · simp at hil
    rw [List.concat_eq_append] at *
    obtain ⟨hE0, hH0⟩ := hE.init
    obtain ⟨g, cap, rfl, hBg, hgl⟩ := hO.1.form (by simp)
    have hlen : (css0 ++ [c0]).length = css0.length + 1 := by simp
    rw [hlen] at hO hE hc hE0 hH0 hn ⊢
    have hk0 : (css0 ++ [c0])[css0.length]? = some c0 := by simp
    have hq := own_size hO (by rw [hlen]) hk0 hH0.now.kind
    rw [Nat.add_zero] at hq
    by_cases hp : i0.k = 20 ∧ i.k = 20
    · match i0, i, hp with
      | .plain x, .plain y, _ =>
        have hx1 : x.size ≤ 1000 := hx (.plain x) (by simp)
        obtain ⟨ks0, e0, hr0⟩ := hH0.now
        rcases hr0 with ⟨_, rfl⟩ | ⟨_, _, _, h0, _⟩
        · simp only [Inl.k, Inl.t] at e0
          subst e0
          have hcell := own_size (j := 1) (u := .string x) hO (by rw [hlen]) hk0 rfl
          have hcur : ∃ cur, w.heap[g]? = some (.cells cur 27 (0, 0)) := by
            rcases hO.1.2 with ⟨h0, _⟩ | ⟨g', cap', cur, e, _, hg, _⟩
            · cases h0
            · injection e with e1 _ _
              have e1' : g = g' := by injection e1 with e; injection e
              subst e1'
              exact ⟨cur, hg⟩
          obtain ⟨cur, hcur⟩ := hcur
          refine (put_text g css0.length cap x y c w (by omega) hc.now hq hcell (heap_free hcur _) hx1 hy).mono ?_
          rintro e w' ⟨rfl, o0, rfl⟩
          have hgr : w.grownBy ((w.alloc o0).setCell ⟨g, css0.length * 10 + 1, none⟩ (.string (x ++ y))).drew (some g) := grown_drew (grown_trans (World.grownBy_alloc w o0 _) (grown_setCell _ _ _ _))
          have hp : putI (is0 ++ [.plain x]) (.plain y) = is0 ++ [.plain (x ++ y)] := by
            unfold putI; rw [List.getLast?_append]; simp
          rw [hp]
          refine ⟨_, css0 ++ [sN 20 (x ++ y) ⟨#[]⟩ 0 ⟨#[]⟩ false (.slice none 0 0) 0 0], rfl, own_text rfl hO (fun cur h => ?_), ?_, hgr, fun g' h => .inl h⟩
          · exact heap_setCell_same (w.alloc o0) g _ _ _ _ ((Below.heap_alloc _ _ _ hgl).trans h)
          · have hE1 := hE0.keep (A' := av (.slice (some ⟨g, 0, none⟩) (css0.length + 1) cap) X) hgr.size (fun j _ hj hne => hgr.block j hj (fun e => hne (.inl e.symm))) (fun g' h => .inl h)
            exact hE1.snoc (Side.pure fun w2 => ⟨.slice none 0 0, rfl, .inl ⟨rfl, rfl⟩⟩)
        · simp [Inl.n] at h0
    · have hno : i0.k ≠ 20 ∨ i.k ≠ 20 := by omega
      rw [putI_no (by omega)]
      refine (put_more B g css0.length cap (css0 ++ [c0]) c i i0.k w (by omega) (by simp) hO hc.now hB hq ?_).mono fun e w' h => putR_q h hE hc
      by_cases h20 : i.k = 20
      · right
        exact ⟨by simp [h20], by rcases hno with h | h
                                 · simpa using h
                                 · exact absurd h20 h⟩
      · left; simpa using h20
end Go.Proofs.YtipniinmajoolaaGreatDoor
