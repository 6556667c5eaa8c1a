/- A text cut into lines: impl.cut. Conditions: a text of at most 100 bytes that ends with a line feed. -/
import Derived.Test.YtipniinmajoolaaGreatDoorBuE
import Derived.Test.YtipniinmajoolaaGreatDoorBu1
namespace Go.Proofs.YtipniinmajoolaaGreatDoor
open Go.RowKit Go.Shelf
attribute [local go_sem] Oper.semAt_some
theorem step_appendIn {F : Fence} {n : Nat} {P : Program} {ops : Array Oper} {o : Oper} {a : Act} {w : World} {K : Act → World → Prop} {Q : Exit → Act → World → Prop} {E : Prop} (hgd : o.guard = none) (s x : Operand) (t : TypeId)
    (hop : o.op = Op.call { callee := Callee.builtin Builtin.append, args := #[s, x], argTypes := #[t, t] }) (v v2 v' : Value) (w' : World) (hs : a.eval s = v) (hx : a.eval x = v2) (hrun : (Builtin.append_ #[t, t] o.type #[v, v2]).run P w = .ok v' w')
    (h : K (a.put o.dst v') w') : if Region.wanted o (yielded ops a.tmps) = true then Oper.wpIn F n P o a w K Q else E := by
  have hw : Region.wanted o (yielded ops a.tmps) = true := by simp [Region.wanted, hgd]
  rw [if_pos hw]
  unfold Oper.wpIn
  refine ⟨?_, ?_⟩
  · simp [Oper.about, hop, resolve, Target.leads, Sem.run_pure]
  · rw [Oper.semAt_plain F _ _ (by rw [hop]; intro c hc'; cases hc')]
    simp [execOp, hop, resolve, invoke, builtin, hs, hx, hrun, Result.andThen]
    exact h
theorem info_strB : (Tryz.prog.info? 9).map (fun i => (i.zero, i.size, i.bytes)) = some (some (.string ⟨#[]⟩), 1, 16) := by kernel_rfl
/-- impl.cut under way: the lines so far, in the row behind the box. -/
def CutI (w : World) (pre : List ByteArray) (W : World) : Prop :=
  ∃ v : Value, ObjAt W w.heap.size #[v] 40 ∧ W.ownsRow (w.heap.size + 2) 9 1 v pre.length (pre.map .string) ∧ (pre = [] → v = .slice none 0 0) ∧ Below w.heap.size w W ∧ w.heap.size + 2 ≤ W.heap.size
theorem CutI.grown {w : World} {s : List ByteArray} {A B : World} {r : Option Nat} (h : CutI w s A) (hg : A.grownBy B r) (hr : ∀ k, r = some k → k = w.heap.size + 1 ∨ (w.heap.size + 2 ≤ k ∧ ∃ o : Obj, A.heap[k]? = some o ∧ o.isCells = false)) : CutI w s B := by
  obtain ⟨v, h1, h2, h3, h4, h5⟩ := h
  refine ⟨v, h1.same (hg.block _ h1.lt (fun e => ?_)), own_move h2 (fun g hv => ?_) (Nat.le_refl _), h3, h4.grown hg h4.size (fun k hk => ?_), Nat.le_trans h5 hg.size⟩
  · rcases hr _ e.symm with q | ⟨q, _⟩ <;> omega
  · rcases h2.2 with ⟨q, _⟩ | ⟨g', cap, cur, rfl, hb, hgc, _⟩
    · rw [q] at hv; cases hv
    · obtain rfl : g' = g := by simpa [Value.ownBlock] using hv
      refine hg.block _ (Array.getElem?_eq_some_iff.1 hgc).1 (fun e => ?_)
      rcases hr _ e.symm with q | ⟨_, o, ho, hc⟩
      · omega
      · rw [hgc] at ho; cases ho; cases hc
  · rcases hr _ hk with q | ⟨q, _⟩ <;> omega
theorem inBlock_normal {α : Type} {B Bs : Nat} {I : List α → World → Prop} {xs : List α} {W : World} {a : Act} {W' : World} (h : KeepsFrom B W W' ∧ W'.heap[Bs]? = W.heap[Bs]? ∧ I xs W') : Exit.inBlock 1 (boxPost B Bs I xs W) .normal a W' := h
theorem cut_step {w W w2 : World} {pre : List ByteArray} {L : ByteArray} {v : Value} {g2 cap2 : Nat} (h2 : W.ownsRow (w.heap.size + 2) 9 1 v pre.length (pre.map .string)) (h4 : Below w.heap.size w W) (h5 : w.heap.size + 2 ≤ W.heap.size) (o2 : ObjAt w2 w.heap.size #[v] 40)
    (hown2 : w2.ownsRow (w.heap.size + 2) 9 1 (.slice (some ⟨g2, 0, none⟩) (pre.length + 1) cap2) (pre.length + 1) (pre.map .string ++ [.string L])) (hg2 : (W.drew.alloc (.cells #[.string L] 9)).grownBy w2 v.ownBlock) (hat2 : v.ownBlock = some g2 ∨ g2 = W.heap.size + 1)
    {w3 : World} (e3 : w3 = w2.setCell ⟨w.heap.size, 0, none⟩ (.slice (some ⟨g2, 0, none⟩) (pre.length + 1) cap2)) :
    KeepsFrom (w.heap.size + 2) W w3 ∧ w3.heap[w.heap.size + 1]? = W.heap[w.heap.size + 1]? ∧ CutI w (pre ++ [L]) w3 := by
  subst e3
  have hg3 := grown_setCell w2 w.heap.size 0 (.slice (some ⟨g2, 0, none⟩) (pre.length + 1) cap2)
  have hs1 : (W.drew.alloc (.cells #[.string L] 9)).heap.size = W.heap.size + 1 := World.size_alloc' _ _
  have hs2 := hg2.size
  rw [hs1] at hs2
  have hvo : ∀ k, v.ownBlock = some k → w.heap.size + 2 ≤ k ∧ k < W.heap.size := fun k e => h2.lt k e
  have keep : ∀ k, k < W.heap.size → some k ≠ v.ownBlock → k ≠ w.heap.size → (w2.setCell ⟨w.heap.size, 0, none⟩ (.slice (some ⟨g2, 0, none⟩) (pre.length + 1) cap2)).heap[k]? = W.heap[k]? := fun k a b c => by
    rw [hg3.block k (by omega) (fun e => c (Option.some.inj e)), hg2.block k (by omega) b]
    exact Below.heap_alloc W.drew _ _ a
  have hb2 : Below w.heap.size w w2 := ((h4.drew).alloc (show w.heap.size ≤ W.drew.heap.size from h4.size) _).grown hg2 (by rw [hs1]; have := h4.size; omega) (fun k hk => by have := (hvo k hk).1; omega)
  refine ⟨⟨Nat.le_trans (by omega) hg3.size, fun k o a b c => ?_⟩, ?_, ?_⟩
  · have hkW : k < W.heap.size := (Array.getElem?_eq_some_iff.1 b).1
    rw [keep k hkW (fun e => ?_) (by omega)]
    · exact b
    · rcases h2.2 with ⟨q, _⟩ | ⟨g', cap, cur, rfl, hb, hgc, _⟩
      · rw [q] at e; cases e
      · obtain rfl : k = g' := by simpa [Value.ownBlock] using e
        rw [hgc] at b; cases b; cases c
  · exact keep _ (by omega) (fun e => by have := (hvo _ e.symm).1; omega) (by omega)
  · refine ⟨.slice (some ⟨g2, 0, none⟩) (pre.length + 1) cap2, ?_, ?_, fun e => by simp at e, hb2.setCell (p := ⟨w.heap.size, 0, none⟩) (Nat.le_refl _) _, by have := hg3.size; omega⟩
    · exact heap_setCell_same w2 w.heap.size 0 _ _ _ o2
    · rw [List.length_append, List.map_append]
      refine own_move hown2 (fun g hv => hg3.block g ?_ (fun e => ?_)) (Nat.le_refl _)
      · exact (hown2.lt g hv).2
      · have := (hown2.lt g hv).1
        have := Option.some.inj e
        omega
/-- What is left of it. -/
theorem cut_end {w W : World} {xs : List ByteArray} {v : Value} {x : ByteArray} {D : Nat} (h2 : W.ownsRow (w.heap.size + 2) 9 1 v xs.length (xs.map .string)) (h3 : xs = [] → v = .slice none 0 0) (h4 : Below w.heap.size w W) (hS : catL xs = x)
    (hD : ((w.alloc (.cells #[.slice none 0 0] 40)).alloc (.cells #[.string x] 9)).heap.size ≤ D) (hK : W.heap[D]? = some (.deferred (some []))) (hx : x.size ≤ 100) :
    ∃ (v' : Value) (n : Nat) (ls : Nat → ByteArray), Ending.returned v = .returned v' ∧ Held (fun w2 => RowIs 9 w2 v' n (fun k => .string (ls k))) (W.putObj D (.deferred none)) w.heap.size (W.putObj D (.deferred none)).heap.size ∧
      (∀ k, k < n → (ls k).size ≤ 100) ∧ catY (fun k => ls k ++ lfB) n = x ∧ Below w.heap.size w (W.putObj D (.deferred none)) := by
  have hz : ((w.alloc (.cells #[.slice none 0 0] 40)).alloc (.cells #[.string x] 9)).heap.size = w.heap.size + 2 := by rw [World.size_alloc', World.size_alloc']
  rw [hz] at hD
  have hg := grownBy_putObj' W D (.deferred none)
  have hDl : D < W.heap.size := (Array.getElem?_eq_some_iff.1 hK).1
  refine ⟨v, xs.length, fun k => xs.getD k ⟨#[]⟩, rfl, ?_, fun k hk => ?_, hS, h4.grown hg h4.size (fun k e => by have := Option.some.inj e; omega)⟩
  · intro w2 hw
    rcases h2.2 with ⟨h5, h6⟩ | ⟨g, cap, cur, rfl, hb, hgc, hnc, hcm, hcs, htake⟩
    · have : xs = [] := List.length_eq_zero_iff.1 h6
      subst this
      exact ⟨none, 0, h5, by omega, fun h => absurd h (by simp)⟩
    · have hgD : g ≠ D := fun e => by rw [e, hK] at hgc; cases hgc
      refine ⟨some ⟨g, 0, none⟩, cap, rfl, by unfold maxLen at hcm; omega, fun _ => ⟨g, rfl, cur, ?_, fun k hk => ?_⟩⟩
      · have hlt : g < W.heap.size := (Array.getElem?_eq_some_iff.1 hgc).1
        show w2.heap[g]? = _
        rw [hw g (by omega) (Nat.lt_of_lt_of_le hlt hg.size), hg.block g hlt (fun e => hgD (Option.some.inj e))]
        exact hgc
      · have h1 : cur[k]? = (xs.map Value.string)[k]? := by rw [← htake, Nat.mul_one, List.getElem?_take_of_lt hk, Array.getElem?_toList]
        rw [h1, List.getElem?_map]
        show _ = some (Value.string (xs.getD k ⟨#[]⟩))
        rw [List.getD_eq_getElem?_getD, List.getElem?_eq_getElem hk]
        rfl
  · have h1 := catY_room (fun k => xs.getD k ⟨#[]⟩ ++ lfB) hk
    have h6 : (catY (fun k => xs.getD k ⟨#[]⟩ ++ lfB) xs.length).size = x.size := by rw [← hS]; rfl
    rw [h6, ByteArray.size_append] at h1
    show (xs.getD k ⟨#[]⟩).size ≤ 100
    omega
abbrev cutA (w : World) (x L : ByteArray) : Act := { tmps := #[.string x, undef, .slice none 0 0, ptr w.heap.size, .string (L ++ lfB), .string x, .func (.func 53) #[] #[ptr (w.heap.size + 1)], .string (L ++ lfB), undef, undef, undef, undef, undef, undef], defers := [] }
set_option maxRecDepth 100000 in
set_option maxHeartbeats 2000000 in
theorem cut_any (w : World) (x : ByteArray) (hx : x.size ≤ 100) (hE : EndLf x) : Calls Tryz.prog 22 #[.string x] w fun e w' => ∃ (v : Value) (n : Nat) (ls : Nat → ByteArray), e = .returned v ∧
    Held (fun w2 => RowIs 9 w2 v n (fun k => .string (ls k))) w' w.heap.size w'.heap.size ∧ (∀ k, k < n → (ls k).size ≤ 100) ∧ catY (fun k => ls k ++ lfB) n = x ∧ Below w.heap.size w w' := by
  refine (callsIn_wide (n := 3)).1 ?_
  refine callsIn_of_wp_marks Tryz.func22 rfl trivial ?_ rfl
  simp only [Tryz.ntmps22, List.size_toArray, List.length_cons, List.length_nil, Nat.reduceAdd, Nat.reduceSub, Array.replicate_succ, Array.replicate_zero, List.push_toArray, List.append_toArray, List.nil_append, List.cons_append]
  gi_wp2_with (refine ⟨trivial, ?_⟩; gi_at_call 42; refine (callsIn_wide.2 (linesF_any x _)).mono ?_; rintro e w2 ⟨rfl, rfl⟩)
  have hz : ((w.alloc (.cells #[.slice none 0 0] 40)).alloc (.cells #[.string x] 9)).heap.size = w.heap.size + 2 := by rw [World.size_alloc', World.size_alloc']
  refine rangeFunc_box rfl (by omega) (gf := 53) (lb := #[ptr (w.heap.size + 1)]) rfl trivial (enters_of Tryz.func53 (by kernel_rfl) rfl) (Bs := w.heap.size + 1) (by rw [hz]; omega)
    (lines_seq (w.heap.size + 1) x _ (by rw [hz]; omega) (newB2 _ _ _) hx hE.lineEnd) (fun _ => rfl) (CutI w) (fun s A B r hs hg hr => hs.grown hg (fun k e => by have := hr k e; rwa [hz] at this)) ⟨_, (Below.heap_alloc _ _ _ (by rw [World.size_alloc']; omega)).trans (newB1 _ _), World.ownsRow_nil _ _ _ _, fun _ => rfl, below2 _ _ _, by rw [hz]; omega⟩
    (cutA w x) ?assign ?body ?done
  case assign =>
    intro l L W K hK
    gi_wp2
    exact hK
  case body =>
    rintro l pre L W hI hlen hL
    have hL : L.size ≤ 100 := hL
    obtain ⟨v, h1, h2, h3, h4, h5⟩ := hI
    obtain ⟨i0, hi0, hz0, hz1, hz2⟩ := info_parts info_strB
    have hdr : W.drew.heap.size = W.heap.size := rfl
    obtain ⟨g2, cap2, w2, hr2, hown2, hg2, hat2, hlt2⟩ := run_append_lies (P := Tryz.prog) (W.drew.alloc (.cells #[.string L] 9)) 40 40 (w.heap.size + 2) 9 i0 (.string ⟨#[]⟩) 1 16 Tryz.underlying40 hi0 hz0 hz1 hz2 rfl (by decide) v pre.length (pre.map .string) ((own_below (w' := W.drew) h2 (Below.refl W.heap.size W).drew (fun g e => (h2.lt g e).2)).alloc _) ⟨W.heap.size, 0, none⟩ 1 1 [.string L] rfl (cellOne W.drew _ _) (by simp [Value.oneCell']) (by omega) (by unfold maxLen; omega) (by omega) (by rw [World.size_alloc', hdr]; omega) (W.heap.size + 1) (World.size_alloc' _ _)
    have hs2 := hg2.size
    rw [World.size_alloc', hdr] at hs2
    have hvo : ∀ k, v.ownBlock = some k → w.heap.size + 2 ≤ k ∧ k < W.heap.size := fun k e => ⟨(h2.lt k e).1, (h2.lt k e).2⟩
    have hne : ∀ k, k < w.heap.size + 2 → some k ≠ v.ownBlock := fun k hk e => by have := (hvo k e.symm).1; omega
    have o2 : ObjAt w2 w.heap.size #[v] 40 := (hg2.block _ (by rw [World.size_alloc', hdr]; omega) (hne _ (by omega))).trans ((Below.heap_alloc W.drew _ _ (by rw [hdr]; omega)).trans h1)
    have hcv := (h1.cell 0).trans (show _ = some v from rfl)
    have hc2 := (o2.cell 0).trans (show _ = some v from rfl)
    have hf2 := obj_free o2 0
    have hc4 : (W.alloc (.cells #[.string L] 9)).cell? ⟨w.heap.size, 0, none⟩ = some v := cell_old hcv _
    have hgc := grown_setCell w2 w.heap.size 0 (.slice (some ⟨g2, 0, none⟩) (pre.length + 1) cap2)
    have hfin : KeepsFrom (w.heap.size + 2) W (w2.setCell ⟨w.heap.size, 0, none⟩ (.slice (some ⟨g2, 0, none⟩) (pre.length + 1) cap2)) ∧ (w2.setCell ⟨w.heap.size, 0, none⟩ (.slice (some ⟨g2, 0, none⟩) (pre.length + 1) cap2)).heap[w.heap.size + 1]? = W.heap[w.heap.size + 1]? ∧ CutI w (pre ++ [L]) (w2.setCell ⟨w.heap.size, 0, none⟩ (.slice (some ⟨g2, 0, none⟩) (pre.length + 1) cap2)) :=
      cut_step h2 h4 h5 o2 hown2 hg2 hat2 rfl
    have TS := hide (Tryz.strings_TrimSuffix (L ++ lfB) lfB W.drew (by rw [ByteArray.size_append]; show _ + 1 ≤ _; omega))
    rw [trim_lf] at TS
    gi_wp2
    refine wpIn_region_any (by kernel_rfl) ?_
    try (change wpAnyIn _ _ _ _ _ _ _ _ _ (World.drew _))
    refine wpAnyIn_ready (rs := [0, 1]) (by kernel_rfl) (by simp) ?_
    refine AllReadyIn.cons rfl (fun K hK => ?_) (AllReadyIn.cons rfl (fun K hK => ?_) AllReadyIn.nil)
    · go_simp
      refine hK _ _ ?_
      clear hK K
      refine wpAnyIn_ready (rs := [1]) (by kernel_rfl) (by simp) ?_
      refine AllReadyIn.cons rfl (fun K hK => ?_) AllReadyIn.nil
      go_simp
      refine hK _ _ ?_
      clear hK K
      refine wpAnyIn_ready (rs := [2]) (by kernel_rfl) (by simp) ?_
      refine AllReadyIn.cons rfl (fun K hK => ?_) AllReadyIn.nil
      go_simp
      gi_wp2_with (refine ⟨trivial, ?_⟩; gi_at_call 43; refine (CallsIn.inRound l (callsIn_wide.2 TS.out)).mono ?_; rintro e w4 ⟨rfl, rfl⟩)
      refine wpAnyIn_ready (rs := [3]) (by kernel_rfl) (by simp) ?_
      refine AllReadyIn.cons rfl (fun K hK => ?_) AllReadyIn.nil
      go_simp
      refine hK _ _ ?_
      clear hK K
      refine wpAnyIn_ready (rs := [4]) (by kernel_rfl) (by simp) ?_
      refine AllReadyIn.cons rfl (fun K hK => ?_) AllReadyIn.nil
      refine step_appendIn rfl (.tmp 8) (.tmp 11) 40 rfl v _ _ _ rfl rfl hr2 ?_
      refine hK _ _ ?_
      clear hK K
      refine wpAnyIn_ready (rs := [5]) (by kernel_rfl) (by simp) ?_
      refine AllReadyIn.cons rfl (fun K hK => ?_) AllReadyIn.nil
      go_simp
      refine hK _ _ ?_
      clear hK K
      refine wpAnyIn_done (by kernel_rfl) ?_ _
      exact inBlock_normal (by rw [hz]; exact hfin)
    · go_simp
      refine hK _ _ ?_
      clear hK K
      refine wpAnyIn_ready (rs := [0, 2]) (by kernel_rfl) (by simp) ?_
      refine AllReadyIn.cons rfl (fun K hK => ?_) (AllReadyIn.cons rfl (fun K hK => ?_) AllReadyIn.nil)
      · go_simp
        refine hK _ _ ?_
        clear hK K
        refine wpAnyIn_ready (rs := [2]) (by kernel_rfl) (by simp) ?_
        refine AllReadyIn.cons rfl (fun K hK => ?_) AllReadyIn.nil
        go_simp
        gi_wp2_with (refine ⟨trivial, ?_⟩; gi_at_call 43; refine (CallsIn.inRound l (callsIn_wide.2 TS.out)).mono ?_; rintro e w4 ⟨rfl, rfl⟩)
        refine wpAnyIn_ready (rs := [3]) (by kernel_rfl) (by simp) ?_
        refine AllReadyIn.cons rfl (fun K hK => ?_) AllReadyIn.nil
        go_simp
        refine hK _ _ ?_
        clear hK K
        refine wpAnyIn_ready (rs := [4]) (by kernel_rfl) (by simp) ?_
        refine AllReadyIn.cons rfl (fun K hK => ?_) AllReadyIn.nil
        refine step_appendIn rfl (.tmp 8) (.tmp 11) 40 rfl v _ _ _ rfl rfl hr2 ?_
        refine hK _ _ ?_
        clear hK K
        refine wpAnyIn_ready (rs := [5]) (by kernel_rfl) (by simp) ?_
        refine AllReadyIn.cons rfl (fun K hK => ?_) AllReadyIn.nil
        go_simp
        refine hK _ _ ?_
        clear hK K
        refine wpAnyIn_done (by kernel_rfl) ?_ _
        exact inBlock_normal (by rw [hz]; exact hfin)
      · go_simp
        gi_wp2_with (refine ⟨trivial, ?_⟩; gi_at_call 43; refine (CallsIn.inRound l (callsIn_wide.2 TS.out)).mono ?_; rintro e w4 ⟨rfl, rfl⟩)
        refine wpAnyIn_ready (rs := [0, 3]) (by kernel_rfl) (by simp) ?_
        refine AllReadyIn.cons rfl (fun K hK => ?_) (AllReadyIn.cons rfl (fun K hK => ?_) AllReadyIn.nil)
        · go_simp
          refine hK _ _ ?_
          clear hK K
          refine wpAnyIn_ready (rs := [3]) (by kernel_rfl) (by simp) ?_
          refine AllReadyIn.cons rfl (fun K hK => ?_) AllReadyIn.nil
          go_simp
          refine hK _ _ ?_
          clear hK K
          refine wpAnyIn_ready (rs := [4]) (by kernel_rfl) (by simp) ?_
          refine AllReadyIn.cons rfl (fun K hK => ?_) AllReadyIn.nil
          refine step_appendIn rfl (.tmp 8) (.tmp 11) 40 rfl v _ _ _ rfl rfl hr2 ?_
          refine hK _ _ ?_
          clear hK K
          refine wpAnyIn_ready (rs := [5]) (by kernel_rfl) (by simp) ?_
          refine AllReadyIn.cons rfl (fun K hK => ?_) AllReadyIn.nil
          go_simp
          refine hK _ _ ?_
          clear hK K
          refine wpAnyIn_done (by kernel_rfl) ?_ _
          exact inBlock_normal (by rw [hz]; exact hfin)
        · go_simp
          refine hK _ _ ?_
          clear hK K
          refine wpAnyIn_ready (rs := [0]) (by kernel_rfl) (by simp) ?_
          refine AllReadyIn.cons rfl (fun K hK => ?_) AllReadyIn.nil
          go_simp
          refine hK _ _ ?_
          clear hK K
          refine wpAnyIn_ready (rs := [4]) (by kernel_rfl) (by simp) ?_
          refine AllReadyIn.cons rfl (fun K hK => ?_) AllReadyIn.nil
          refine step_appendIn rfl (.tmp 8) (.tmp 11) 40 rfl v _ _ _ rfl rfl hr2 ?_
          refine hK _ _ ?_
          clear hK K
          refine wpAnyIn_ready (rs := [5]) (by kernel_rfl) (by simp) ?_
          refine AllReadyIn.cons rfl (fun K hK => ?_) AllReadyIn.nil
          go_simp
          refine hK _ _ ?_
          clear hK K
          refine wpAnyIn_done (by kernel_rfl) ?_ _
          exact inBlock_normal (by rw [hz]; exact hfin)
  case done =>
    intro D xs W hD hS hI hK
    obtain ⟨v, h1, h2, h3, h4, h5⟩ := hI
    have hcv := (h1.cell 0).trans (show _ = some v from rfl)
    gi_wp2
    refine ⟨by simp, .inl ⟨_, _, rfl, run_takeDeferred hK, ?_⟩⟩
    refine ⟨_, results_tmp rfl _ _ _, ?_⟩
    exact cut_end h2 h3 h4 hS hD hK hx
end Go.Proofs.YtipniinmajoolaaGreatDoor
