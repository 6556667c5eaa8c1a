/- Some blocks with blank lines between them: builder.blocks, given what builder.block does. Conditions: the builder's block holds at most 300 readable bytes. -/
import Derived.Test.YtipniinmajoolaaGreatDoorBl9
import Derived.Deep.CutRange
import Derived.Deep.Cut
namespace Go.Proofs.YtipniinmajoolaaGreatDoor
open Go.RowKit
section
variable {P : Program}
theorem wpList_load_obj {ops : Array Oper} {rest : List Oper} {op : Oper} {a : Act} {w : World} {Q : Exit → Act → World → Prop} (hgd : op.guard = none) (ty : TypeId) (x : Operand) (ho : op.op = .load ty x)
    (g : Nat) (c : Array Value) (d : TypeDesc) (hb : w.heap[g]? = some (.cells c ty (0, 0))) (hx : a.eval x = .pointer (some ⟨g, 0, none⟩)) (hu : P.underlying ty = some d) (hd : d.isRow = true) (hi : (P.info? ty).map (·.size) = some c.size)
    (h : wpList P ops Q rest (a.put op.dst (.agg c)) w) : wpList P ops Q (op :: rest) a w := by
  refine wpList_load_mid hgd ty x ho g 0 hx c.toList d ?_ hu hd (by simpa using hi) (by simpa using h)
  have := World.rangeAt_of_block (w := w) (b := g) hb 0 c.size
  simpa using this
end
/-- Strings in a row, as a list. -/
theorem StrsR.list {w : World} {g o n M : Nat} (h : StrsR w g o n M) : ∃ ss : List ByteArray, ss.length = n ∧ (∀ s ∈ ss, s.size ≤ M) ∧ ∀ j u, (ss.map Value.string)[j]? = some u → w.cell? ((⟨g, o, none⟩ : Addr).add j) = some u := by
  refine ⟨(List.range n).map (fun j => if hj : j < n then (h j hj).choose else ⟨#[]⟩), by simp, fun s hs => ?_, fun j u hu => ?_⟩
  · obtain ⟨j, hj, rfl⟩ := List.mem_map.1 hs
    have hj2 := List.mem_range.1 hj
    simp only [hj2, dif_pos]
    exact (h j hj2).choose_spec.2
  · have hj : j < n := by
      have := (List.getElem?_eq_some_iff.1 hu).1
      simpa using this
    simp [hj] at hu
    rw [Addr.add_lit, (h j hj).choose_spec.1, ← hu]
theorem ObjIs.keep {w w' : World} {g : Nat} {cs : Array Value} {T : TypeId} (h : ObjIs w g cs T) {r : Option Nat} (hg : w.grownBy w' r) (hr : r ≠ some g) : ObjIs w' g cs T :=
  (hg.block g (Array.getElem?_eq_some_iff.1 h).1 (fun e => hr e.symm)).trans h
theorem size_get {cs : Array Value} {n : Nat} (h : cs.size = n) (j : Nat) (hj : j < n) : ∃ v, cs[j]? = some v := ⟨_, Array.getElem?_eq_getElem (by omega)⟩
/-- The strings of two rows in one. -/
theorem Strs.app {B g cap n m M : Nat} {w : World} {ss ts : List ByteArray} (h : w.ownsRow B 9 1 (.slice (some ⟨g, 0, none⟩) (n + m) cap) (n + m) (ss.map .string ++ ts.map .string)) (h1 : ss.length = n) (h2 : ts.length = m) (h3 : ∀ s ∈ ss, s.size ≤ M) (h4 : ∀ s ∈ ts, s.size ≤ M) : Strs B w (.slice (some ⟨g, 0, none⟩) (n + m) cap) (n + m) M :=
  ⟨ss ++ ts, by rw [List.length_append, h1, h2], by rw [List.map_append]; exact h, fun q hq => by
    rcases List.mem_append.1 hq with q1 | q1
    · exact h3 q q1
    · exact h4 q q1⟩
theorem hat_next {v : Value} {g n cap H : Nat} (h : v.ownBlock = some g ∨ g = H) : ∀ g', (Value.slice (some ⟨g, 0, none⟩) n cap).ownBlock = some g' → v.ownBlock = some g' ∨ H ≤ g' := fun g' e => by
  have e2 : g = g' := by simpa [Value.ownBlock] using e
  subst e2
  rcases h with h | h
  · exact .inl h
  · exact .inr (by omega)
theorem ten_of_size {cs : Array Value} (h : cs.size = 10) : ∃ a0 a1 a2 a3 a4 a5 a6 a7 a8 a9 : Value, cs = #[a0, a1, a2, a3, a4, a5, a6, a7, a8, a9] := by
  obtain ⟨l⟩ := cs
  match l, h with
  | [a0, a1, a2, a3, a4, a5, a6, a7, a8, a9], _ => exact ⟨a0, a1, a2, a3, a4, a5, a6, a7, a8, a9, rfl⟩
set_option maxHeartbeats 4000000 in
set_option maxRecDepth 100000 in
theorem blocks_any (d m : Nat) (bb : Nat) (bv : Value) (N : Nat) (BC : BlockC d bb bv N) (hd : d ≤ 3) (hm0 : 0 < m) (hm : m ≤ 4) : BlocksC d m bb bv N := by
  intro w hB
  have hbl := hB.lt
  have N1 := hide (fun w1 h => next_any bb bv N m w1 hm0 (by omega) h)
  have HB := hide hB
  have BC := hide BC
  have hNL : NL d ≤ 10000 := by
    rcases (by omega : d = 0 ∨ d = 1 ∨ d = 2 ∨ d = 3) with rfl | rfl | rfl | rfl <;> decide
  have hLM : LM d ≤ 100 := by unfold LM; omega
  clear hB
  obtain ⟨i0, hi0, hz0, hz1, hz2⟩ := info_parts info_str
  obtain ⟨j0, hj0, hy0, hy1, hy2⟩ := info_parts info_sn
  go_enter Tryz.func9, Tryz.ntmps9
  go_wp2_with (go_at_call 14; refine (N1.out _ HB.out).mono ?_; rintro e w1 ⟨r, rfl, hr, hB1, hg1⟩; have C0 := hide (Core.start (R := SBx d) (M := LM d) hbl (World.grownBy.refl w _) hg1 hB1); clear hB1 hg1)
  go_loopw [8, 9, 17] (fun tv nv kv wr => ∃ (k n : Nat) (xs : List (Option ByteArray × ByteArray)), k ≤ r + 1 ∧ kv = .int .i64 k ∧ Hid (Core (SBx d) bb bv N w w.heap.size (fun _ => False) (fun _ => True) wr tv n (LM d) nv xs) ∧ Hid (n ≤ k * (NL d + 1) ∧ (0 < k → 0 < n) ∧ xs.length = k ∧ (k = 0 → tv = .slice none 0 0 ∧ n = 0))) (fun _ _ kv _ => r + 1 - (intOf kv).toNat)
  case atStart => exact ⟨0, 0, [], by omega, rfl, C0.out, by omega, by omega, rfl, fun _ => ⟨rfl, rfl⟩⟩
  case round =>
    obtain ⟨k, n, xs, hk, rfl, C, J⟩ := hrel
    clear C0 HB
    by_cases hlt : k < r + 1
    · have hltI : (k : Int) < 1 + (r : Int) := by omega
      have hnb : n ≤ 100000 := by
        have h1 := J.out.1
        have h2 : k * (NL d + 1) ≤ 4 * 10001 := Nat.mul_le_mul (by omega) (by omega)
        omega
      by_cases hk0 : 0 < k
      case' pos =>
        have hk0I : (0 : Int) < (k : Int) := by omega
        go_upto_region 9 with (first | (go_at_call 15; refine (BC.out _ _ C.out.b).mono ?_; rintro e w3 ⟨gl, nl, cl, cs, x, rfl, q1, q2, q3, q4, hz, h1, hS, hB3, hg3⟩; have C1 := hide ((C.out.setE hB3 hg3 hS).addX (.cells cs 27)); have HZ := hide hz; have H1 := hide h1; have O := hide (newB1 w3 (.cells cs 27)); obtain ⟨ss, s1, s2, s3⟩ := C1.out.T; have S1 := hide s1; have S2 := hide (s2.alloc (.cells #[.string ⟨#[]⟩] 9)); have S3 := hide s3; clear s1 s2 s3 hS hB3 hg3 hz h1 C) | (refine wpList_store_new rfl 27 (.tmp 12) (.tmp 28) rfl _ _ cs rfl rfl (by rw [HZ.out]; exact info_sn10) (by rw [HZ.out]; rfl) H1.out ?_) | (at_builtin; refine wpList_append_lies _ rfl (.tmp 31) (.tmp 32) 40 rfl w.heap.size 9 i0 (.string ⟨#[]⟩) 1 16 Tryz.underlying40 hi0 hz0 hz1 hz2 rfl (by decide) _ n (ss.map .string) rfl S2.out ⟨w3.heap.size + 1, 0, none⟩ 1 1 [.string ⟨#[]⟩] rfl rfl (World.news_of_block (cs := #[.string ⟨#[]⟩]) (newB2 w3 _ _)) (by simp [Value.oneCell']) (by omega) (by unfold maxLen; omega) (by omega) (by have := C1.out.o3; rw [World.size_alloc'] at this ⊢; rw [World.size_alloc']; omega) (w3.heap.size + 1 + 1) (by simp) ?_; intro g2 cap2 w4 hown2 hg2 hat2 hlt2; have C2 := hide ((C1.out.alloc (.cells #[.string ⟨#[]⟩] 9)).text (Strs.snoc hown2 S1.out S3.out (Nat.zero_le _)) hg2 (by rw [World.size_alloc', World.size_alloc']; exact hat_next hat2)); have O2 : Hid (ObjIs w4 w3.heap.size cs 27) := (ObjIs.keep (w := (w3.alloc (.cells cs 27)).alloc (.cells #[.string ⟨#[]⟩] 9)) ((Below.heap_alloc _ _ _ (by rw [World.size_alloc']; omega)).trans O.out) hg2 (fun e => (C1.out.X1 w3.heap.size (.inr rfl)).2.2.2 e)); clear hown2 hg2 hat2 hlt2 S1 S2 S3 C1 O))
        have hn2 : Hid (n + 1 ≤ k * (NL d + 1) + 1) := Nat.succ_le_succ J.out.1
        have hx2 : Hid (xs.length = k) := J.out.2.2.1
        clear J
      case' neg =>
        have hk0I : ¬ ((0 : Int) < (k : Int)) := by omega
        obtain ⟨rfl, rfl⟩ := J.out.2.2.2 (by omega)
        have hn2 : Hid (0 ≤ k * (NL d + 1) + 1) := Nat.zero_le _
        have hx2 : Hid (xs.length = k) := J.out.2.2.1
        clear J
        go_upto_region 9 with (first | (go_at_call 15; refine (BC.out _ _ C.out.b).mono ?_; rintro e w3 ⟨gl, nl, cl, cs, x, rfl, q1, q2, q3, q4, hz, h1, hS, hB3, hg3⟩; have C1 := hide ((C.out.setE hB3 hg3 hS).addX (.cells cs 27)); have HZ := hide hz; have H1 := hide h1; have O := hide (newB1 w3 (.cells cs 27)); obtain ⟨ss, s1, s2, s3⟩ := C1.out.T; have S1 := hide s1; have S2 := hide (s2.alloc (.cells #[.string ⟨#[]⟩] 9)); have S3 := hide s3; clear s1 s2 s3 hS hB3 hg3 hz h1 C) | (refine wpList_store_new rfl 27 (.tmp 12) (.tmp 28) rfl _ _ cs rfl rfl (by rw [HZ.out]; exact info_sn10) (by rw [HZ.out]; rfl) H1.out ?_))
        obtain ⟨w4, hw4⟩ : ∃ w4, w4 = w3.alloc (.cells cs 27) := ⟨_, rfl⟩
        rw [← hw4] at C1 O ⊢
        have C2 := C1
        have O2 : Hid (ObjIs w4 w3.heap.size cs 27) := O
        clear S1 S2 S3 C1 O hw4
      all_goals
        clear hk0 hk0I
        obtain ⟨v8, h8⟩ := size_get HZ.out 8 (by omega)
        obtain ⟨v9, h9⟩ := size_get HZ.out 9 (by omega)
        have c8 := (heap_cell O2.out 8).trans h8
        have c9 := (heap_cell O2.out 9).trans h9
        have f8 := heap_free O2.out 8
        have f9 := heap_free O2.out 9
        clear h8 h9
        go_cut [] from 34 to 43 (fun wx => ∃ a b : Int, wx = (w4.setCell ⟨w3.heap.size, 8, none⟩ (.int .i64 a)).setCell ⟨w3.heap.size, 9, none⟩ (.int .i64 b))
        case first =>
          go_wp2_with fail
          go_meet
          case rel => exact ⟨_, _, rfl⟩
        case rest =>
          obtain ⟨a, b, rfl⟩ := hcut
          have C3 := hide ((C2.out.cell w3.heap.size 8 (.int .i64 a) (.inl (.inr rfl))).cell w3.heap.size 9 (.int .i64 b) (.inl (.inr rfl)))
          have O3 := hide (heap_setCell_same _ w3.heap.size 9 _ _ (.int .i64 b) (heap_setCell_same w4 w3.heap.size 8 _ _ (.int .i64 a) O2.out))
          obtain ⟨w5, hw5⟩ : ∃ w5, w5 = (w4.setCell ⟨w3.heap.size, 8, none⟩ (.int .i64 a)).setCell ⟨w3.heap.size, 9, none⟩ (.int .i64 b) := ⟨_, rfl⟩
          rw [← hw5] at C3 O3 ⊢
          clear hw5 c8 c9 f8 f9 C2 O2
          obtain ⟨ts, t1, t2, t3⟩ := C3.out.T
          obtain ⟨ls, l1, l2, l3⟩ := C3.out.E1.now.1.1.list
          have T1 := hide t1
          have T2 := hide t2
          have T3 := hide t3
          have L1 := hide l1
          have L2 := hide l2
          have L3 := hide l3
          have hB5 := C3.out.o3
          obtain ⟨cs2, hcs2⟩ : ∃ cs2, cs2 = (cs.setIfInBounds 8 (.int .i64 a)).setIfInBounds 9 (.int .i64 b) := ⟨_, rfl⟩
          have HP := hide (And.intro (by rw [hcs2, place_size, HZ.out] : cs2.size = 10) (by rw [hcs2]; exact place_one H1.out a b : cs2.all (·.oneCell') = true))
          have HE : Hid (∀ w2, SBx d w2 cs x → SBx d w2 cs2 x) := fun w2 h => by rw [hcs2]; exact SB.place h a b
          rw [← hcs2] at O3
          obtain ⟨a0, a1, a2, a3, a4, a5, a6, a7, a8, a9, hten⟩ := ten_of_size HP.out.1
          subst hten
          clear hcs2 t1 t2 t3 l1 l2 l3
          go_wp2_with (first | (at_builtin; refine wpList_append_lies _ rfl (.tmp 44) (.tmp 45) 40 rfl w.heap.size 9 i0 (.string ⟨#[]⟩) 1 16 Tryz.underlying40 hi0 hz0 hz1 hz2 rfl (by decide) _ _ (ts.map .string) rfl T2.out ⟨gl, 0, none⟩ nl cl (ls.map .string) rfl (by rw [List.length_map, L1.out, Nat.mul_one]) L3.out (fun u hu => by (obtain ⟨s, _, rfl⟩ := List.mem_map.1 hu); rfl) q1 (by unfold maxLen; omega) (by omega) hB5 _ rfl ?_; intro g6 cap6 w6 hown6 hg6 hat6 hlt6; have C4 := hide (C3.out.text (Strs.app hown6 T1.out L1.out T3.out L2.out) hg6 (hat_next hat6)); have O4 : Hid (ObjIs w6 w3.heap.size #[a0, a1, a2, a3, a4, a5, a6, a7, a8, a9] 27) := ObjIs.keep O3.out hg6 (fun e => (C3.out.X1 w3.heap.size (.inr rfl)).2.2.2 e); obtain ⟨css, k1, k2, k3⟩ := (C4.out.alloc (.cells #[a0, a1, a2, a3, a4, a5, a6, a7, a8, a9] 27)).K; have hcl : css.length = k := k2.1.trans hx2.out; have K1 := hide k1; have K2 := hide k1.1; have KE := hide k2; have HCL := hide hcl; rw [hcl] at K2; clear hcl k1 k2 k3 hown6 hg6 hat6 hlt6 C3 O3 T1 T2 T3 L1 L2 L3) | (refine wpList_load_obj rfl 27 (.tmp 12) rfl w3.heap.size #[a0, a1, a2, a3, a4, a5, a6, a7, a8, a9] _ O4.out rfl Tryz.underlying27 rfl (by rw [HP.out.1]; exact info_sn10) ?_) | (at_builtin; refine wpList_append_lies _ rfl (.tmp 47) (.tmp 49) 25 rfl w.heap.size 27 j0 _ 10 136 Tryz.underlying25 hj0 hy0 hy1 hy2 rfl (by decide) _ _ (flat css) rfl K2.out ⟨w6.heap.size, 0, none⟩ 1 1 #[a0, a1, a2, a3, a4, a5, a6, a7, a8, a9].toList rfl rfl (World.news_of_block (cs := #[a0, a1, a2, a3, a4, a5, a6, a7, a8, a9]) (newB1 w6 _)) (one_mem HP.out.2) (by omega) (by unfold maxLen; omega) (by omega) (by have := C4.out.o3; rw [World.size_alloc']; omega) (w6.heap.size + 1) (by simp) ?_; intro g7 cap7 w7 hown7 hg7 hat7 hlt7; have C7 := hide ((C4.out.alloc (.cells #[a0, a1, a2, a3, a4, a5, a6, a7, a8, a9] 27)).node (x := x) K1.out KE.out HCL.out ((C4.out.alloc (.cells #[a0, a1, a2, a3, a4, a5, a6, a7, a8, a9] 27)).E1.mono fun w2 h => HE.out w2 h.2) HP.out.1 HP.out.2 hown7 hg7 (hat7.elim .inl fun h => .inr (by rw [World.size_alloc']; omega))); clear hown7 hg7 hat7 hlt7))
          have C8 := hide ((C7.out.dropX (X' := fun _ => False) (fun _ h => h.elim)).monoE (E' := fun _ => True) (fun _ _ => trivial))
          clear C7 K1 K2 KE HCL
          try rw [Nat.zero_add] at C8
          go_roundw
          case rel => exact ⟨k + 1, _, xs ++ [x], by omega, by go_num, C8, by rw [Nat.succ_mul]; have := hn2.out; omega, fun _ => by omega, by rw [List.length_append, hx2.out]; rfl, fun h => absurd h (by omega)⟩
          case measure => simp [intOf]; omega
    · obtain rfl : k = r + 1 := by omega
      have hltI : ¬ (((r + 1 : Nat) : Int) < 1 + (r : Int)) := by omega
      have HR : Hid (∃ (g cap g2 cap2 : Nat) (ps : Nat → Option ByteArray) (ys : Nat → ByteArray), u8 = .slice (some ⟨g, 0, none⟩) n cap ∧ u9 = .slice (some ⟨g2, 0, none⟩) (r + 1) cap2 ∧ n ≤ cap ∧ cap ≤ 9223372036854775807 ∧ Side w.heap.size (fun _ => False) (fun w2 => (StrsR w2 g 0 n (LM d) ∧ g < w2.heap.size) ∧ Kids 10 (SB (d + 1) w2) w2 (.slice (some ⟨g2, 0, none⟩) (r + 1) cap2) (r + 1) ps ys) wr) := by
        obtain ⟨j1, j2, j3, j4⟩ := J.out
        have hn0 := j2 (by omega)
        obtain ⟨ss, s1, s2, s3⟩ := C.out.T
        obtain ⟨css, k1, k2, k3⟩ := C.out.K
        have hcl : css.length = r + 1 := k2.1.trans j3
        obtain ⟨g, cap, rfl, hbg, hgl⟩ := s2.form hn0
        obtain ⟨g2, cap2, e2, hbg2, hgl2⟩ := k1.1.form (by omega)
        rw [hcl] at e2
        subst e2
        have hcap : n ≤ cap ∧ cap ≤ 9223372036854775807 := by
          rcases s2.2 with ⟨h0, _⟩ | ⟨g', cap', cur, e, _, _, a, b, _⟩
          · cases h0
          · injection e with _ _ e3
            subst e3
            unfold maxLen at b
            exact ⟨a, by omega⟩
        refine ⟨g, cap, g2, cap2, fun q => (xs.getD q (none, ByteArray.empty)).1, fun q => (xs.getD q (none, ByteArray.empty)).2, rfl, rfl, hcap.1, hcap.2, Held.side (fun w2 hw => ⟨⟨?_, ?_⟩, by omega, by omega, fun q => css.getD q #[], ?_, fun q hq => ?_⟩) (fun _ h => h.elim)⟩
        · have hT : Strs w.heap.size w2 (.slice (some ⟨g, 0, none⟩) n cap) n (LM d) := C.out.T.move (fun q e => hw q (C.out.T.lt q e).1 (C.out.T.lt q e).2) (Nat.le_refl _)
          exact hT.read
        · have hb := hw g hbg hgl
          rw [Array.getElem?_eq_getElem hgl] at hb
          exact (Array.getElem?_eq_some_iff.1 hb).1
        · rw [← hcl]
          have := k1.row (by omega) (w2 := w2) (fun q e => hw q (k1.lt q e).1 (k1.lt q e).2)
          rw [hcl] at this ⊢
          exact this
        · have hq1 : css[q]? = some (css.getD q #[]) := by rw [List.getD_eq_getElem?_getD, List.getElem?_eq_getElem (by omega), Option.getD_some]
          have hq2 : xs[q]? = some (xs.getD q (none, ByteArray.empty)) := by rw [List.getD_eq_getElem?_getD, List.getElem?_eq_getElem (by omega), Option.getD_some]
          exact (k2.2 q _ _ hq1 hq2).all w2 hw
      obtain ⟨g, cap, g2, cap2, ps, ys, rfl, rfl, hc1, hc2, hS⟩ := HR.out
      have HS := hide hS
      clear HR hS
      go_wp2
      go_ret2
      exact ⟨g, n, cap, g2, r + 1, cap2, ps, ys, rfl, J.out.2.1 (by omega), Nat.le_trans J.out.1 (Nat.mul_le_mul_right _ (by omega)), hc1, hc2, by omega, HS.out, C.out.b, C.out.G⟩
end Go.Proofs.YtipniinmajoolaaGreatDoor
