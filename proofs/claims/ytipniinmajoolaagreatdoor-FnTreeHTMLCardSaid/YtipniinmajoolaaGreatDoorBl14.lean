/- One block: builder.block, given what builder.blocks and builder.list do. Conditions: the builder's block holds at most 300 readable bytes. -/
import Derived.Test.YtipniinmajoolaaGreatDoorBl13
namespace Go.Proofs.YtipniinmajoolaaGreatDoor
open Go.RowKit
set_option maxHeartbeats 8000000 in
set_option maxRecDepth 100000 in
theorem block_any (d : Nat) (bb : Nat) (bv : Value) (N : Nat) (QC : 0 < d → BlocksC (d - 1) 3 bb bv N) (LC : 0 < d → ListC (d - 1) bb bv N) (hd : d ≤ 3) : BlockC d bb bv N := by
  intro w odd hB
  have hbl := hB.lt
  have W1 := hide (fun w1 h => word_any bb bv N w1 h)
  have N2 := hide (fun w1 h => next_any bb bv N 2 w1 (by omega) (by omega) h)
  have N6 := hide (fun w1 h => next_any bb bv N 6 w1 (by omega) (by omega) h)
  have N9 := hide (fun w1 h => next_any bb bv N 9 w1 (by omega) (by omega) h)
  have L1 := hide (fun w1 h => (lines_any bb bv N w1 h).mono fun e w' q => lines_q q)
  have I1 := hide (fun w1 h => line_any bb bv N w1 h)
  have C1 := hide (fun w1 h => code_any bb bv N w1 h)
  have QC := hide QC
  have LC := hide LC
  obtain ⟨sz, dp, c2, _, f2, B2⟩ := hB.count
  have S0 : Hid (∀ v : Int, BkS bb bv N w ((w.setCell ⟨bb, 2, none⟩ (.int .i64 v)).alloc (.cells zeroN 27))) := fun v => by
    have hs : (w.setCell ⟨bb, 2, none⟩ (.int .i64 v)).heap.size = w.heap.size := by simp [World.setCell]
    refine ⟨hbl, by rw [World.size_alloc', hs]; omega, grown_trans (grown_setCell w bb 2 _) (World.grownBy_alloc _ _ _), (B2 v).1.alloc _, ?_⟩
    have h1 := newB1 (w.setCell ⟨bb, 2, none⟩ (.int .i64 v)) (.cells zeroN 27)
    rw [hs] at h1
    exact h1
  have c2a := cell_old c2 (.cells zeroN 27)
  have f2a : (w.alloc (.cells zeroN 27)).frozen? ⟨bb, 2, none⟩ = false := free_old c2 (f2 2) _
  clear hB B2
  have hNL := NL_ge d
  obtain ⟨i0, hi0, hz0, hz1, hz2⟩ := info_parts info_str
  go_enter Tryz.func15, Tryz.ntmps15
  go_upto_region 3 with (go_at_call 14; refine (N9.out _ (S0.out _).b).mono ?_; rintro e w1 ⟨q, rfl, hq, hB1, hg1⟩; have S1 := hide ((S0.out _).step hB1 hg1); obtain ⟨sz1, _, d2, _, _, _⟩ := hB1.count; clear hB1 hg1 c2 f2 S0 c2a f2a)
  go_cut [45] from 33 to 44 (fun s wx => ∃ b2 : Bool, s = .bool b2 ∧ (b2 = false → 6 ≤ q → 0 < d) ∧ wx = w1)
  case first =>
    by_cases h60 : 60 < sz1
    · go_wp2
      go_meet
      case rel => exact ⟨true, rfl, (fun h => (by cases h)), rfl⟩
    · by_cases hd0 : d = 0
      · subst hd0
        by_cases h6 : 6 ≤ q
        · have h6I : (6 : Int) ≤ (q : Int) := by omega
          go_wp2
          go_meet
          case rel => exact ⟨true, rfl, (fun h => (by cases h)), rfl⟩
        · have h6I : ¬ (6 : Int) ≤ (q : Int) := by omega
          go_wp2
          go_meet
          case rel => exact ⟨false, rfl, (fun _ h => absurd h h6), rfl⟩
      · have hdI : ¬ (d : Int) ≤ 0 := by omega
        go_wp2
        go_meet
        case rel => exact ⟨false, rfl, (fun _ _ => by omega), rfl⟩
  case rest =>
    obtain ⟨b2, rfl, hb2, rfl⟩ := hcut
    have HB2 := hide hb2
    clear hb2 d2
    go_upto_if 45 with fail
    go_cut [8] from 46 to 46 (fun s wx => ∃ k : Nat, s = .int .i64 k ∧ k < 9 ∧ (6 ≤ k → 0 < d) ∧ wx = wc)
    case first =>
      cases b2
      · go_wp2
        go_meet
        case rel => exact ⟨q, rfl, hq, (fun h => HB2.out (by first | rfl | trivial) h), rfl⟩
      · go_wp2
        go_meet
        case rel => exact ⟨0, rfl, by omega, (fun h => absurd h (by omega)), rfl⟩
    case rest =>
      obtain ⟨k, rfl, hk, hkd, rfl⟩ := hcut
      have HK := hide hkd
      clear hkd HB2 hq
      have INFO := info_sn10
      rcases (by omega : k = 0 ∨ k = 1 ∨ k = 2 ∨ k = 3 ∨ k = 4 ∨ k = 5 ∨ k = 6 ∨ k = 7 ∨ k = 8) with rfl | rfl | rfl | rfl | rfl | rfl | rfl | rfl | rfl
      · go_wp2_with (first | (go_at_call 36; refine (L1.out _ S1.out.b).mono ?_; rintro e w5 ⟨gl, nl, cl, gp, np, dp2, is, rfl, q1, q2, q3, q4, hT, hS, hB5, hg5⟩; have S5 := hide (S1.out.step hB5 hg5); have E5 := hide (epar_side hT hS); clear hT hS hB5 hg5) | (refine wpList_store_obj rfl 27 (.tmp 7) (.tmp 186) rfl w.heap.size zeroN (sN 6 ⟨#[]⟩ ⟨#[]⟩ 0 ⟨#[]⟩ false (.slice (some ⟨gp, 0, none⟩) np dp2) 0 0) S5.out.hr rfl rfl INFO rfl (sn_one rfl) ?_; rintro W hW; have HW := fun j => heap_cell hW.1 j; have HP := hide (S5.out.done hW q1 (by omega) q3 q4 rfl (sn_one rfl) S1.out.o3 (E5.out.mono (K' := fun w2 => (StrsR w2 gl 0 nl (LM d) ∧ gl < w2.heap.size) ∧ SBx d w2 (sN 6 ⟨#[]⟩ ⟨#[]⟩ 0 ⟨#[]⟩ false (.slice (some ⟨gp, 0, none⟩) np dp2) 0 0) (_, _)) fun w2 h => ⟨⟨h.1.1.mono (by unfold LM; omega), h.1.2⟩, para_sb h.2 0 0⟩) (L := NL d)); clear hW E5 S5))
        exact bodyPost_ret (v := .tuple #[.slice (some ⟨gl, 0, none⟩) nl cl, .agg (sN 6 ⟨#[]⟩ ⟨#[]⟩ 0 ⟨#[]⟩ false (.slice (some ⟨gp, 0, none⟩) np dp2) 0 0)]) (by simp [results, Tryz.results15, go_sem, HW]) rfl HP.out
      · go_wp2_with (first | (go_at_call 36; refine (L1.out _ S1.out.b).mono ?_; rintro e w5 ⟨gl, nl, cl, gp, np, dp2, is, rfl, q1, q2, q3, q4, hT, hS, hB5, hg5⟩; have S5 := hide (S1.out.step hB5 hg5); have E5 := hide (epar_side hT hS); clear hT hS hB5 hg5) | (refine wpList_store_obj rfl 27 (.tmp 7) (.tmp 186) rfl w.heap.size zeroN (sN 6 ⟨#[]⟩ ⟨#[]⟩ 0 ⟨#[]⟩ false (.slice (some ⟨gp, 0, none⟩) np dp2) 0 0) S5.out.hr rfl rfl INFO rfl (sn_one rfl) ?_; rintro W hW; have HW := fun j => heap_cell hW.1 j; have HP := hide (S5.out.done hW q1 (by omega) q3 q4 rfl (sn_one rfl) S1.out.o3 (E5.out.mono (K' := fun w2 => (StrsR w2 gl 0 nl (LM d) ∧ gl < w2.heap.size) ∧ SBx d w2 (sN 6 ⟨#[]⟩ ⟨#[]⟩ 0 ⟨#[]⟩ false (.slice (some ⟨gp, 0, none⟩) np dp2) 0 0) (_, _)) fun w2 h => ⟨⟨h.1.1.mono (by unfold LM; omega), h.1.2⟩, para_sb h.2 0 0⟩) (L := NL d)); clear hW E5 S5))
        exact bodyPost_ret (v := .tuple #[.slice (some ⟨gl, 0, none⟩) nl cl, .agg (sN 6 ⟨#[]⟩ ⟨#[]⟩ 0 ⟨#[]⟩ false (.slice (some ⟨gp, 0, none⟩) np dp2) 0 0)]) (by simp [results, Tryz.results15, go_sem, HW]) rfl HP.out
      · have T1 : Hid (∀ (r : Nat) (wx : World), r < 6 → Calls Tryz.prog 33 #[.string ⟨#[35]⟩, .int .i64 (1 + (r : Int))] wx fun e w' => (∃ t : ByteArray, e = .returned (.string t) ∧ t.size ≤ 6) ∧ wx = w') := fun r wx h => by
          have h1 : (1 : Int) + (r : Int) = ((1 + r : Nat) : Int) := by omega
          rw [h1]
          refine (times_any ⟨#[35]⟩ (1 + r) wx (by decide) (by omega)).mono ?_
          rintro e w' ⟨⟨t, h2, h3⟩, h4⟩
          exact ⟨⟨t, h2, by rw [h3]; show (1 + r) * 1 ≤ 6; omega⟩, h4⟩
        go_wp2_with (first | (go_at_call 14; refine (N6.out _ S1.out.b).mono ?_; rintro e w5 ⟨r, rfl, hr, hB5, hg5⟩; have S5 := hide (S1.out.step hB5 hg5); clear hB5 hg5) | (go_at_call 32; refine (I1.out _ S5.out.b).mono ?_; rintro e w6 ⟨s, lv, is, rfl, hs, hS, hg6, hne, hle, hok⟩; obtain ⟨g2, c2, css, rfl, hcl, _, hrow⟩ := line_row hS hne (fun _ h => h.elim); have S6 := hide (S5.out.step hS.2.1 hg6); have R6 := hide hrow; have HOK := hide hok; have HCL := hide hcl; clear hS hg6 hrow hok hcl) | (go_at_call 33; refine (T1.out r _ hr).mono ?_; rintro e w7 ⟨⟨t, rfl, ht⟩, rfl⟩; have hxs : (t ++ (⟨#[32]⟩ : ByteArray) ++ s).size ≤ 50 := (by rw [ByteArray.size_append, ByteArray.size_append]; show _ + 1 + _ ≤ _; omega); obtain ⟨X, hX⟩ : ∃ X, X = t ++ (⟨#[32]⟩ : ByteArray) ++ s := ⟨_, rfl⟩; have HX := hide hX; have HXS := hide hxs; have hts : (t ++ (⟨#[32]⟩ : ByteArray)).size = t.size + 1 := ByteArray.size_append; clear hX hxs) | (refine wpList_store_obj rfl 27 (.tmp 7) (.tmp 65) rfl w.heap.size zeroN (sN 5 ⟨#[]⟩ ⟨#[]⟩ (1 + r) ⟨#[]⟩ false (.slice (some ⟨g2, 0, none⟩) is.length c2) 0 0) (S6.out.alloc _).hr rfl rfl INFO rfl (sn_one rfl) ?_; rintro W hW; have HW := fun j => heap_cell hW.1 j; have hxs := HXS.out; rw [← HX.out] at hxs; have E6 := hide (Side.and ((strs_side (Strs.one w6 X 50 hxs)).base S6.out.o3) ((R6.out.alloc (.cells #[.string X] 9)).base S5.out.o3)); have HP := hide ((S6.out.alloc (.cells #[.string X] 9)).done (by rw [HX.out]; exact hW) (by omega) (by omega) (Nat.le_refl 1) (by omega) rfl (sn_one rfl) (Nat.lt_succ_self _) (E6.out.mono (K' := fun w2 => (StrsR w2 w6.heap.size 0 1 (LM d) ∧ w6.heap.size < w2.heap.size) ∧ SBx d w2 (sN 5 ⟨#[]⟩ ⟨#[]⟩ (1 + r) ⟨#[]⟩ false (.slice (some ⟨g2, 0, none⟩) is.length c2) 0 0) (_, _)) fun w2 h => ⟨⟨h.1.1.mono (by unfold LM; omega), h.1.2⟩, head_sb (line_inls h.2 HCL.out (by omega) (HOK.out.ok (by omega))) (1 + r) (by omega) (by omega) 0 0⟩) (L := NL d)); clear hW E6 hxs))
        exact bodyPost_ret (v := .tuple #[.slice (some ⟨w6.heap.size, 0, none⟩) 1 1, .agg (sN 5 ⟨#[]⟩ ⟨#[]⟩ (1 + r) ⟨#[]⟩ false (.slice (some ⟨g2, 0, none⟩) is.length c2) 0 0)]) (by simp [results, Tryz.results15, go_sem, HW]) rfl HP.out
      · go_wp2_with (refine wpList_store_obj rfl 27 (.tmp 7) (.tmp 69) rfl w.heap.size zeroN (sN 9 ⟨#[]⟩ ⟨#[]⟩ 0 ⟨#[]⟩ false (.slice none 0 0) 0 0) (S1.out.alloc _).hr rfl rfl INFO rfl (sn_one rfl) ?_; rintro W hW; have HW := fun j => heap_cell hW.1 j; have E6 := hide (strs_side (Strs.one wc ⟨#[42, 42, 42]⟩ 50 (by decide))); have HP := hide ((S1.out.alloc (.cells #[.string ⟨#[42, 42, 42]⟩] 9)).done hW (by omega) (by omega) (Nat.le_refl 1) (by omega) rfl (sn_one rfl) S1.out.o3 (E6.out.mono (K' := fun w2 => (StrsR w2 wc.heap.size 0 1 (LM d) ∧ wc.heap.size < w2.heap.size) ∧ SBx d w2 (sN 9 ⟨#[]⟩ ⟨#[]⟩ 0 ⟨#[]⟩ false (.slice none 0 0) 0 0) (_, _)) fun w2 h => ⟨⟨h.1.mono (by unfold LM; omega), h.2⟩, break_sb 0 0⟩) (L := NL d)); clear hW E6)
        exact bodyPost_ret (v := .tuple #[.slice (some ⟨wc.heap.size, 0, none⟩) 1 1, .agg (sN 9 ⟨#[]⟩ ⟨#[]⟩ 0 ⟨#[]⟩ false (.slice none 0 0) 0 0)]) (by simp [results, Tryz.results15, go_sem, HW]) rfl HP.out
      · go_upto_region 14 with fail
        go_cut [81] from 72 to 80 (fun s wx => ∃ b : Bool, s = .bool b ∧ BkS bb bv N w wx)
        case first =>
          go_wp2_with (go_at_call 14; refine (N2.out _ S1.out.b).mono ?_; rintro e w5 ⟨r, rfl, hr, hB5, hg5⟩; have S5 := hide (S1.out.step hB5 hg5); have FL5 := hB5.flat; clear hB5 hg5; rcases (by omega : r = 0 ∨ r = 1) with rfl | rfl)
          all_goals
            go_meet
            case rel => exact ⟨_, rfl, S5.out⟩
        case rest =>
        obtain ⟨b5, rfl, S5⟩ := hcut
        have S5 := hide S5
        clear S1
        go_upto_if 81 with fail
        go_cut [12] from 82 to 83 (fun tv wx => ∃ T : ByteArray, tv = .string T ∧ WT T ∧ BkS bb bv N w wx)
        case first =>
          cases b5
          · go_wp2
            go_meet
            case rel => exact ⟨⟨#[]⟩, rfl, ⟨by decide, fun k h => absurd h (Nat.not_lt_zero k)⟩, S5.out⟩
          · go_wp2_with (go_at_call 34; refine (W1.out _ S5.out.b).mono ?_; rintro e w6 ⟨y, rfl, hy, hB6, hg6⟩; have S6 := hide (S5.out.step hB6 hg6); have HY := hide hy; clear hy hB6 hg6)
            go_meet
            case rel => exact ⟨y, rfl, ⟨HY.out.2.1, HY.out.2.2⟩, S6.out⟩
        case rest =>
        obtain ⟨T, rfl, hTw, S7⟩ := hcut
        have S7 := hide S7
        have HT := hide hTw
        have hTs := hTw.1
        clear hTw S5
        go_wp2_with (first | (go_at_call 35; refine (C1.out _ S7.out.b).mono ?_; rintro e w8 ⟨gl, nl, cl, s, rfl, q1, q2, hT8, z1, z2, z3, hB8, hg8⟩; have S8 := hide (S7.out.step hB8 hg8); have O8 := hide (own_one_str w8 ((⟨#[96, 96, 96]⟩ : ByteArray) ++ T)); obtain ⟨ls, l1, l2, l3⟩ := (hT8.alloc (.cells #[.string ((⟨#[96, 96, 96]⟩ : ByteArray) ++ T)] 9)).read.list; have L1' := hide l1; have L2' := hide l2; have L3' := hide l3; have HC : Hid (codeOk T s) := ⟨by omega, HT.out.2, z1, z2, z3⟩; have hXs : ((⟨#[96, 96, 96]⟩ : ByteArray) ++ T).size = 3 + T.size := ByteArray.size_append; clear hT8 z1 z2 z3 hB8 hg8 l1 l2 l3) | (at_builtin; refine wpList_append_lies _ rfl (.tmp 91) (.tmp 92) 40 rfl w8.heap.size 9 i0 (.string ⟨#[]⟩) 1 16 Tryz.underlying40 hi0 hz0 hz1 hz2 rfl (by decide) _ _ ([((⟨#[96, 96, 96]⟩ : ByteArray) ++ T)].map .string) rfl O8.out ⟨gl, 0, none⟩ nl cl (ls.map .string) rfl (by rw [List.length_map, L1'.out, Nat.mul_one]) L3'.out (fun u hu => by (obtain ⟨q', _, rfl⟩ := List.mem_map.1 hu); rfl) q1 (by unfold maxLen; omega) (by omega) (by rw [World.size_alloc']; omega) _ rfl ?_; intro g9 cap9 w9 hown9 hg9 hat9 hlt9; have T9 := hide (Strs.app hown9 rfl L1'.out (M := 50) (fun q' hq' => by (have : q' = (⟨#[96, 96, 96]⟩ : ByteArray) ++ T := by simpa using hq'); rw [this]; omega) (fun q' hq' => Nat.le_trans (L2'.out q' hq') (by omega))); have S9 := hide ((S8.out.alloc (.cells #[.string ((⟨#[96, 96, 96]⟩ : ByteArray) ++ T)] 9)).newer hg9 (fun k' hk' => by (have := (O8.out.lt k' hk').1); have := S8.out.o3; omega)); obtain ⟨ts, t1, t2, t3⟩ := T9.out; have T1 := hide t1; have T2 := hide (t2.alloc (.cells #[.string ⟨#[96, 96, 96]⟩] 9)); have T3 := hide t3; have hs9 := hg9.size; rw [World.size_alloc'] at hs9; clear hown9 hg9 hat9 hlt9 t1 t2 t3) | (at_builtin; refine wpList_append_lies _ rfl (.tmp 93) (.tmp 94) 40 rfl w8.heap.size 9 i0 (.string ⟨#[]⟩) 1 16 Tryz.underlying40 hi0 hz0 hz1 hz2 rfl (by decide) _ _ (ts.map .string) rfl T2.out ⟨w9.heap.size, 0, none⟩ 1 1 [.string ⟨#[96, 96, 96]⟩] rfl rfl (cellOne _ _ _) (by simp [Value.oneCell']) (by omega) (by unfold maxLen; omega) (by omega) (by rw [World.size_alloc']; omega) _ rfl ?_; intro g10 cap10 w10 hown10 hg10 hat10 hlt10; have T10 := hide (Strs.snoc hown10 T1.out T3.out (by decide)); have S10 := hide ((S9.out.alloc (.cells #[.string ⟨#[96, 96, 96]⟩] 9)).newer hg10 (fun k' hk' => by (have := (T2.out.lt k' hk').1); have := S8.out.o3; omega)); have hcp := (show 1 + nl + 1 ≤ cap10 ∧ cap10 ≤ 9223372036854775807 from (by (obtain ⟨g', c', e', h1', h2', _⟩ := T10.out.form (by omega)); (injection e' with _ _ e3); (subst e3); exact ⟨h1', h2'⟩)); clear hown10 hg10 hat10 hlt10) | (refine wpList_store_obj rfl 27 (.tmp 7) (.tmp 98) rfl w.heap.size zeroN (sN 7 s T 0 ⟨#[]⟩ false (.slice none 0 0) 0 0) S10.out.hr rfl rfl INFO rfl (sn_one rfl) ?_; rintro W hW; have HW := fun j => heap_cell hW.1 j; have HP := hide (S10.out.done hW (by omega) (by omega) hcp.1 hcp.2 rfl (sn_one rfl) S8.out.o3 ((strs_side T10.out).mono (K' := fun w2 => (StrsR w2 g10 0 (1 + nl + 1) (LM d) ∧ g10 < w2.heap.size) ∧ SBx d w2 (sN 7 s T 0 ⟨#[]⟩ false (.slice none 0 0) 0 0) (_, _)) fun w2 h => ⟨⟨h.1.mono (by unfold LM; omega), h.2⟩, code_sb HC.out 0 0⟩) (L := NL d)); clear hW))
        exact bodyPost_ret (v := .tuple #[.slice (some ⟨g10, 0, none⟩) (1 + nl + 1) cap10, .agg (sN 7 s T 0 ⟨#[]⟩ false (.slice none 0 0) 0 0)]) (by simp [results, Tryz.results15, go_sem, HW]) rfl HP.out
      · go_upto_region 23 with (go_at_call 36; refine (L1.out _ S1.out.b).mono ?_; rintro e w5 ⟨gl, nl, cl, gp, np, dp2, is, rfl, q1, q2, q3, q4, hT, hS, hB5, hg5⟩; have S5 := hide ((S1.out.step hB5 hg5).alloc (.cells (sN 6 ⟨#[]⟩ ⟨#[]⟩ 0 ⟨#[]⟩ false (.slice (some ⟨gp, 0, none⟩) np dp2) 0 0) 27)); have FL5 := S5.out.b.flat; have T5 := hide (hT.alloc (.cells (sN 6 ⟨#[]⟩ ⟨#[]⟩ 0 ⟨#[]⟩ false (.slice (some ⟨gp, 0, none⟩) np dp2) 0 0) 27)); have O5 := hide (newB1 w5 (.cells (sN 6 ⟨#[]⟩ ⟨#[]⟩ 0 ⟨#[]⟩ false (.slice (some ⟨gp, 0, none⟩) np dp2) 0 0) 27)); have I5 : Hid (Side wc.heap.size (fun q' => q' = gl ∨ q' = w5.heap.size) (fun w2 => Inls 10 SInl w2 (.slice (some ⟨gp, 0, none⟩) np dp2) is.length (fun k => is.getD k .soft)) (w5.alloc (.cells (sN 6 ⟨#[]⟩ ⟨#[]⟩ 0 ⟨#[]⟩ false (.slice (some ⟨gp, 0, none⟩) np dp2) 0 0) 27))) := hS.keep (by rw [World.size_alloc']; omega) (fun j _ b' _ => Below.heap_alloc _ _ _ b') (fun g' q' => q'.elim .inl (fun e' => .inr (Nat.le_of_eq e'.symm))); have hB5s := hg5.size; have GL : Hid (gl < w5.heap.size) := (hT.lt gl rfl).2; clear hT hS hB5 hg5)
        go_cut [] from 119 to 123 (fun wx => ∃ r : Nat, r < 2 ∧ BkS bb bv N w wx ∧ ObjIs wx w5.heap.size (sN 5 ⟨#[]⟩ ⟨#[]⟩ (1 + r : Int) ⟨#[]⟩ false (.slice (some ⟨gp, 0, none⟩) np dp2) 0 0) 27 ∧ Strs wc.heap.size wx (.slice (some ⟨gl, 0, none⟩) nl cl) nl 40 ∧ Side wc.heap.size (fun q' => q' = gl ∨ q' = w5.heap.size) (fun w2 => Inls 10 SInl w2 (.slice (some ⟨gp, 0, none⟩) np dp2) is.length (fun k => is.getD k .soft)) wx)
        case first =>
          have hwc := S1.out.o3
          have ho1 := S1.out.o1
          have HX : Hid (∀ (r : Nat) (w6 : World), BOk bb bv N w6 → (w5.alloc (.cells (sN 6 ⟨#[]⟩ ⟨#[]⟩ 0 ⟨#[]⟩ false (.slice (some ⟨gp, 0, none⟩) np dp2) 0 0) 27)).grownBy w6 (some bb) → ObjIs w6 w5.heap.size (sN 6 ⟨#[]⟩ ⟨#[]⟩ 0 ⟨#[]⟩ false (.slice (some ⟨gp, 0, none⟩) np dp2) 0 0) 27 ∧ (BkS bb bv N w ((w6.setCell ⟨w5.heap.size, 0, none⟩ (.int .i64 5)).setCell ⟨w5.heap.size, 3, none⟩ (.int .i64 (1 + (r : Int)))) ∧ ObjIs ((w6.setCell ⟨w5.heap.size, 0, none⟩ (.int .i64 5)).setCell ⟨w5.heap.size, 3, none⟩ (.int .i64 (1 + (r : Int)))) w5.heap.size (sN 5 ⟨#[]⟩ ⟨#[]⟩ (1 + r : Int) ⟨#[]⟩ false (.slice (some ⟨gp, 0, none⟩) np dp2) 0 0) 27 ∧ Strs wc.heap.size ((w6.setCell ⟨w5.heap.size, 0, none⟩ (.int .i64 5)).setCell ⟨w5.heap.size, 3, none⟩ (.int .i64 (1 + (r : Int)))) (.slice (some ⟨gl, 0, none⟩) nl cl) nl 40 ∧ Side wc.heap.size (fun q' => q' = gl ∨ q' = w5.heap.size) (fun w2 => Inls 10 SInl w2 (.slice (some ⟨gp, 0, none⟩) np dp2) is.length (fun k => is.getD k .soft)) ((w6.setCell ⟨w5.heap.size, 0, none⟩ (.int .i64 5)).setCell ⟨w5.heap.size, 3, none⟩ (.int .i64 (1 + (r : Int)))))) := by
            intro r w6 hB6 hg6
            have S6 := S5.out.step hB6 hg6
            have O6 : ObjIs w6 w5.heap.size (sN 6 ⟨#[]⟩ ⟨#[]⟩ 0 ⟨#[]⟩ false (.slice (some ⟨gp, 0, none⟩) np dp2) 0 0) 27 := ObjIs.keep O5.out hg6 (fun e => by have := Option.some.inj e; omega)
            have g1 := grown_trans (grown_setCell w6 w5.heap.size 0 (.int .i64 5)) (grown_setCell (w6.setCell ⟨w5.heap.size, 0, none⟩ (.int .i64 5)) w5.heap.size 3 (.int .i64 (1 + (r : Int))))
            have T6 := T5.out.step hg6 (by omega)
            have I6 := I5.out.step hg6 (by omega)
            have hgl := (T5.out.lt gl rfl).2
            refine ⟨O6, S6.newer g1 (fun k' hk' => by have := Option.some.inj hk'; omega), heap_setCell_same _ _ 3 _ _ _ (heap_setCell_same w6 _ 0 _ _ _ O6), T6.move (fun g' e' => g1.block g' (T6.lt g' e').2 (fun e2 => ?_)) (Nat.le_refl _), I6.keep g1.size (fun j _ b' c' => g1.block j b' (fun e2 => c' (.inr (Option.some.inj e2)))) (fun _ h => .inl h)⟩
            have h1 := Option.some.inj e2
            have h2 : gl = g' := by simpa [Value.ownBlock] using e'
            have h3 := GL.out
            omega
          go_wp2_with (go_at_call 14; refine (N2.out _ S5.out.b).mono ?_; rintro e w6 ⟨r, rfl, hr, hB6, hg6⟩; have X6 := hide (HX.out r w6 hB6 hg6); have e0 := heap_cell X6.out.1 0; have e3 := heap_cell X6.out.1 3; have f0 := heap_free X6.out.1 0; have f3 := heap_free X6.out.1 3; clear hB6 hg6)
          go_meet
          case rel => exact ⟨r, hr, X6.out.2⟩
        case rest =>
          obtain ⟨r, hr, S6, O6, T6, I6⟩ := hcut
          obtain ⟨WB, hWB⟩ : ∃ WB : World, (Strs WB.heap.size wc (.slice (some ⟨gl, 0, none⟩) nl cl) nl 40 ∧ Side WB.heap.size (fun q' => q' = gl ∨ q' = w5.heap.size) (fun w2 => Inls 10 SInl w2 (.slice (some ⟨gp, 0, none⟩) np dp2) is.length (fun k => is.getD k .soft)) wc) ∧ w.heap.size < WB.heap.size ∧ WB.heap.size ≤ w5.heap.size := ⟨_, ⟨T6, I6⟩, S1.out.o3, hB5s⟩
          obtain ⟨⟨T6, I6⟩, hWB1, hWB2⟩ := hWB
          clear S1 S5 FL5 T5 O5 I5 hB5s
          obtain ⟨ss, s1, s2, s3⟩ := T6
          have H1 := hide s1
          have H2 := hide s2
          have H3 := hide s3
          have hlo := S6.o3
          have hw5 := (Array.getElem?_eq_some_iff.1 O6).1
          have T3 : Hid (∀ (s : ByteArray) (wx : World), s.size ≤ 3 → Calls Tryz.prog 33 #[.string s, .int .i64 3] wx fun e w' => (∃ t : ByteArray, e = .returned (.string t) ∧ t.size ≤ 10) ∧ wx = w') := fun s wx h => by
            refine (times_any s 3 wx (by omega) (by omega)).mono ?_
            rintro e w' ⟨⟨t, h2, h3⟩, h4⟩
            exact ⟨⟨t, h2, by omega⟩, h4⟩
          have AFT : Hid (∀ (t : ByteArray), t.size ≤ 10 → ∀ (g9 cap9 : Nat) (w9 : World), w9.ownsRow WB.heap.size 9 1 (.slice (some ⟨g9, 0, none⟩) (nl + 1) cap9) (nl + 1) (ss.map .string ++ [.string t]) → ((wc.alloc (.cells #[.string t] 9)).drew).grownBy w9 (some gl) → ObjIs w9 w5.heap.size (sN 5 ⟨#[]⟩ ⟨#[]⟩ (1 + r : Int) ⟨#[]⟩ false (.slice (some ⟨gp, 0, none⟩) np dp2) 0 0) 27 ∧ ObjIs w9 w.heap.size zeroN 27 ∧ BkS bb bv N w w9 ∧ Strs WB.heap.size w9 (.slice (some ⟨g9, 0, none⟩) (nl + 1) cap9) (nl + 1) 50 ∧ Side WB.heap.size (fun _ => False) (fun w2 => Inls 10 SInl w2 (.slice (some ⟨gp, 0, none⟩) np dp2) is.length (fun k => is.getD k .soft)) w9) := by
            intro t ht g9 cap9 w9 hown hg
            have gw : (wc.grownBy w9 (some gl)) := grown_trans (World.grownBy_alloc wc (.cells #[.string t] 9) _) ⟨hg.os, hg.tape, hg.output, hg.size, hg.block⟩
            have hgl := (H2.out.lt gl rfl).1
            have h5 := GL.out
            exact ⟨O6.keep gw (fun e => by have := Option.some.inj e; omega), (S6.newer gw (fun k' hk' => by have := Option.some.inj hk'; omega)).hr, S6.newer gw (fun k' hk' => by have := Option.some.inj hk'; omega), Strs.snoc hown H1.out (fun q' hq' => Nat.le_trans (H3.out q' hq') (by omega)) (by omega), I6.keep gw.size (fun j _ b' c' => gw.block j b' (fun e => c' (.inl (Option.some.inj e)))) (fun _ h => h.elim)⟩
          clear s1 s2 s3
          go_upto_region 24 with fail
          go_cut [6] from 124 to 133 (fun tv wx => ∃ (g9 cap9 : Nat) (w9 : World), tv = .slice (some ⟨g9, 0, none⟩) (nl + 1) cap9 ∧ (ObjIs w9 w5.heap.size (sN 5 ⟨#[]⟩ ⟨#[]⟩ (1 + r : Int) ⟨#[]⟩ false (.slice (some ⟨gp, 0, none⟩) np dp2) 0 0) 27 ∧ ObjIs w9 w.heap.size zeroN 27 ∧ BkS bb bv N w w9 ∧ Strs WB.heap.size w9 (.slice (some ⟨g9, 0, none⟩) (nl + 1) cap9) (nl + 1) 50 ∧ Side WB.heap.size (fun _ => False) (fun w2 => Inls 10 SInl w2 (.slice (some ⟨gp, 0, none⟩) np dp2) is.length (fun k => is.getD k .soft)) w9) ∧ wx = ((((((((((w9.setCell ⟨w.heap.size, 0, none⟩ (.int .i64 5)).setCell ⟨w.heap.size, 1, none⟩ (.string ⟨#[]⟩)).setCell ⟨w.heap.size, 2, none⟩ (.string ⟨#[]⟩)).setCell ⟨w.heap.size, 3, none⟩ (.int .i64 (1 + (r : Int)))).setCell ⟨w.heap.size, 4, none⟩ (.string ⟨#[]⟩)).setCell ⟨w.heap.size, 5, none⟩ (.bool false)).setCell ⟨w.heap.size, 6, none⟩ (.slice none 0 0)).setCell ⟨w.heap.size, 7, none⟩ (.slice (some ⟨gp, 0, none⟩) np dp2)).setCell ⟨w.heap.size, 8, none⟩ (.int .i64 0)).setCell ⟨w.heap.size, 9, none⟩ (.int .i64 0)))
          case first =>
            rcases (by omega : r = 0 ∨ r = 1) with rfl | rfl
            · have P6 : ObjIs wc w5.heap.size (sN 5 ⟨#[]⟩ ⟨#[]⟩ 1 ⟨#[]⟩ false (.slice (some ⟨gp, 0, none⟩) np dp2) 0 0) 27 := O6
              have c0 := heap_cell P6 0
              have c1 := heap_cell P6 1
              have c2 := heap_cell P6 2
              have c3 := heap_cell P6 3
              have c4 := heap_cell P6 4
              have c5 := heap_cell P6 5
              have c6 := heap_cell P6 6
              have c7 := heap_cell P6 7
              have c8 := heap_cell P6 8
              have c9 := heap_cell P6 9
              have r0 := heap_cell S6.hr 0
              have r1 := heap_cell S6.hr 1
              have r2 := heap_cell S6.hr 2
              have r3 := heap_cell S6.hr 3
              have r4 := heap_cell S6.hr 4
              have r5 := heap_cell S6.hr 5
              have r6 := heap_cell S6.hr 6
              have r7 := heap_cell S6.hr 7
              have r8 := heap_cell S6.hr 8
              have r9 := heap_cell S6.hr 9
              have rf := fun j => heap_free S6.hr j
              clear P6 O6
              replace S6 := hide S6
              replace T6 := hide T6
              replace I6 := hide I6
              clear hr
              have hwr0 : IntKind.i64.wrap 0 = 0 := by rw [IntKind.wrap_i64] <;> omega
              have hwr1 : IntKind.i64.wrap 1 = 1 := by rw [IntKind.wrap_i64] <;> omega
              go_wp2_with fail
              go_region_law (first | (refine step_append_lies _ rfl (.tmp 124) (.tmp 132) 40 rfl WB.heap.size 9 i0 (.string ⟨#[]⟩) 1 16 Tryz.underlying40 hi0 hz0 hz1 hz2 rfl (by decide) _ _ (ss.map .string) rfl ((H2.out.alloc (.cells #[.string t3] 9)).drew) ⟨wc.heap.size, 0, none⟩ 1 1 [.string t3] rfl rfl (World.news_of_block (w := (wc.alloc (.cells #[.string t3] 9)).drew) (cs := #[.string t3]) (newB1 wc _)) (by simp [Value.oneCell']) (by omega) (by unfold maxLen; omega) (by omega) (by show WB.heap.size ≤ (wc.alloc (.cells #[.string t3] 9)).heap.size; rw [World.size_alloc']; omega) (wc.heap.size + 1) (by show (wc.alloc (.cells #[.string t3] 9)).heap.size = _; exact World.size_alloc' _ _) ?_; intro g9 cap9 w9 hown9 hg9 hat9 hlt9; have A9 := hide (AFT.out t3 ht3 g9 cap9 w9 hown9 hg9); have P9 := A9.out.1; have Q9 := A9.out.2.1; have k0 := heap_cell P9 0; have k1 := heap_cell P9 1; have k2 := heap_cell P9 2; have k3 := heap_cell P9 3; have k4 := heap_cell P9 4; have k5 := heap_cell P9 5; have k6 := heap_cell P9 6; have k7 := heap_cell P9 7; have k8 := heap_cell P9 8; have k9 := heap_cell P9 9; have v0 := heap_cell Q9 0; have v1 := heap_cell Q9 1; have v2 := heap_cell Q9 2; have v3 := heap_cell Q9 3; have v4 := heap_cell Q9 4; have v5 := heap_cell Q9 5; have v6 := heap_cell Q9 6; have v7 := heap_cell Q9 7; have v8 := heap_cell Q9 8; have v9 := heap_cell Q9 9; have vf := fun j => heap_free Q9 j; clear P9 Q9 hown9 hg9 hat9 hlt9) | (go_simp; go_at_call 33; refine (T3.out _ _ (by first | decide | (rw [ByteArray.size_extract]; omega))).mono ?_; rintro e w7 ⟨⟨t3, rfl, ht3⟩, rfl⟩))
              all_goals
                go_wp2_with fail
                go_meet
                case rel => exact ⟨g9, cap9, w9, rfl, A9.out, rfl⟩
            · have P6 : ObjIs wc w5.heap.size (sN 5 ⟨#[]⟩ ⟨#[]⟩ 2 ⟨#[]⟩ false (.slice (some ⟨gp, 0, none⟩) np dp2) 0 0) 27 := O6
              have c0 := heap_cell P6 0
              have c1 := heap_cell P6 1
              have c2 := heap_cell P6 2
              have c3 := heap_cell P6 3
              have c4 := heap_cell P6 4
              have c5 := heap_cell P6 5
              have c6 := heap_cell P6 6
              have c7 := heap_cell P6 7
              have c8 := heap_cell P6 8
              have c9 := heap_cell P6 9
              have r0 := heap_cell S6.hr 0
              have r1 := heap_cell S6.hr 1
              have r2 := heap_cell S6.hr 2
              have r3 := heap_cell S6.hr 3
              have r4 := heap_cell S6.hr 4
              have r5 := heap_cell S6.hr 5
              have r6 := heap_cell S6.hr 6
              have r7 := heap_cell S6.hr 7
              have r8 := heap_cell S6.hr 8
              have r9 := heap_cell S6.hr 9
              have rf := fun j => heap_free S6.hr j
              clear P6 O6
              replace S6 := hide S6
              replace T6 := hide T6
              replace I6 := hide I6
              clear hr
              have hwr0 : IntKind.i64.wrap 0 = 0 := by rw [IntKind.wrap_i64] <;> omega
              have hwr1 : IntKind.i64.wrap 1 = 1 := by rw [IntKind.wrap_i64] <;> omega
              go_wp2_with fail
              go_region_law (first | (refine step_append_lies _ rfl (.tmp 124) (.tmp 132) 40 rfl WB.heap.size 9 i0 (.string ⟨#[]⟩) 1 16 Tryz.underlying40 hi0 hz0 hz1 hz2 rfl (by decide) _ _ (ss.map .string) rfl ((H2.out.alloc (.cells #[.string t3] 9)).drew) ⟨wc.heap.size, 0, none⟩ 1 1 [.string t3] rfl rfl (World.news_of_block (w := (wc.alloc (.cells #[.string t3] 9)).drew) (cs := #[.string t3]) (newB1 wc _)) (by simp [Value.oneCell']) (by omega) (by unfold maxLen; omega) (by omega) (by show WB.heap.size ≤ (wc.alloc (.cells #[.string t3] 9)).heap.size; rw [World.size_alloc']; omega) (wc.heap.size + 1) (by show (wc.alloc (.cells #[.string t3] 9)).heap.size = _; exact World.size_alloc' _ _) ?_; intro g9 cap9 w9 hown9 hg9 hat9 hlt9; have A9 := hide (AFT.out t3 ht3 g9 cap9 w9 hown9 hg9); have P9 := A9.out.1; have Q9 := A9.out.2.1; have k0 := heap_cell P9 0; have k1 := heap_cell P9 1; have k2 := heap_cell P9 2; have k3 := heap_cell P9 3; have k4 := heap_cell P9 4; have k5 := heap_cell P9 5; have k6 := heap_cell P9 6; have k7 := heap_cell P9 7; have k8 := heap_cell P9 8; have k9 := heap_cell P9 9; have v0 := heap_cell Q9 0; have v1 := heap_cell Q9 1; have v2 := heap_cell Q9 2; have v3 := heap_cell Q9 3; have v4 := heap_cell Q9 4; have v5 := heap_cell Q9 5; have v6 := heap_cell Q9 6; have v7 := heap_cell Q9 7; have v8 := heap_cell Q9 8; have v9 := heap_cell Q9 9; have vf := fun j => heap_free Q9 j; clear P9 Q9 hown9 hg9 hat9 hlt9) | (go_simp; go_at_call 33; refine (T3.out _ _ (by first | decide | (rw [ByteArray.size_extract]; omega))).mono ?_; rintro e w7 ⟨⟨t3, rfl, ht3⟩, rfl⟩))
              all_goals
                go_wp2_with fail
                go_meet
                case rel => exact ⟨g9, cap9, w9, rfl, A9.out, rfl⟩
          case rest =>
            obtain ⟨g9, cap9, w9, rfl, A9, rfl⟩ := hcut
            have A9 := hide A9
            have H10 := ten_stored w9 w.heap.size _ _ _ _ _ _ _ _ _ _ _ (.int .i64 5) (.string ⟨#[]⟩) (.string ⟨#[]⟩) (.int .i64 (1 + (r : Int))) (.string ⟨#[]⟩) (.bool false) (.slice none 0 0) (.slice (some ⟨gp, 0, none⟩) np dp2) (.int .i64 0) (.int .i64 0) A9.out.2.1
            obtain ⟨hW, hgW⟩ := H10
            generalize ((((((((((w9.setCell ⟨w.heap.size, 0, none⟩ (.int .i64 5)).setCell ⟨w.heap.size, 1, none⟩ (.string ⟨#[]⟩)).setCell ⟨w.heap.size, 2, none⟩ (.string ⟨#[]⟩)).setCell ⟨w.heap.size, 3, none⟩ (.int .i64 (1 + (r : Int)))).setCell ⟨w.heap.size, 4, none⟩ (.string ⟨#[]⟩)).setCell ⟨w.heap.size, 5, none⟩ (.bool false)).setCell ⟨w.heap.size, 6, none⟩ (.slice none 0 0)).setCell ⟨w.heap.size, 7, none⟩ (.slice (some ⟨gp, 0, none⟩) np dp2)).setCell ⟨w.heap.size, 8, none⟩ (.int .i64 0)).setCell ⟨w.heap.size, 9, none⟩ (.int .i64 0)) = W at hW hgW ⊢
            have HW := fun j => heap_cell hW j
            have hcp : nl + 1 ≤ cap9 ∧ cap9 ≤ 9223372036854775807 := by
              obtain ⟨g', c', e', h1', h2', _⟩ := A9.out.2.2.2.1.form (by omega)
              injection e' with _ _ e3
              subst e3
              exact ⟨h1', h2'⟩
            have HP := hide ((A9.out.2.2.1).done (L := NL d) ⟨hW, hgW⟩ (by omega) (by omega) hcp.1 hcp.2 rfl (sn_one rfl) hWB1 ((Side.and (strs_side A9.out.2.2.2.1) A9.out.2.2.2.2).mono (K' := fun w2 => (StrsR w2 g9 0 (nl + 1) (LM d) ∧ g9 < w2.heap.size) ∧ SBx d w2 (sN 5 ⟨#[]⟩ ⟨#[]⟩ (1 + r : Int) ⟨#[]⟩ false (.slice (some ⟨gp, 0, none⟩) np dp2) 0 0) (_, _)) fun w2 h => ⟨⟨h.1.1.mono (by unfold LM; omega), h.1.2⟩, head_sb h.2 (1 + r) (by omega) (by omega) 0 0⟩))
            clear hW hgW A9
            go_wp2
            exact bodyPost_ret (v := .tuple #[.slice (some ⟨g9, 0, none⟩) (nl + 1) cap9, .agg (sN 5 ⟨#[]⟩ ⟨#[]⟩ (1 + r : Int) ⟨#[]⟩ false (.slice (some ⟨gp, 0, none⟩) np dp2) 0 0)]) (by simp [results, Tryz.results15, go_sem, HW]) rfl HP.out
      · have hdp : 0 < d := HK.out (by omega)
        obtain ⟨d', rfl⟩ : ∃ d', d = d' + 1 := ⟨d - 1, by omega⟩
        have QC2 : Hid (BlocksC d' 3 bb bv N) := QC.out hdp
        have hdI : ((d' + 1 : Nat) : Int) - 1 = (d' : Int) := by omega
        have hNLs := hide (NL_succ d')
        have hNLd : NL d' ≤ 1000 := by
          rcases (by omega : d' = 0 ∨ d' = 1 ∨ d' = 2) with rfl | rfl | rfl <;> decide
        have hNLg := NL_ge d'
        have hLMd : LM d' ≤ 100 := by unfold LM; omega
        have hwc := S1.out.o3
        have ho1 := S1.out.o1
        obtain ⟨_, dp1, _, c4, f4, BC4⟩ := S1.out.b.count
        have BC4 := hide BC4
        have f4 := f4 4
        go_upto_region 28 with (go_at_call 9; refine (QC2.out _ (BC4.out _).2).mono ?_; rintro e w5 ⟨gl, nl, cl, g2, n2, cl2, ps, ys, rfl, q1, q2, q3, q4, q5, hS, hB5, hg5⟩; have S5 := hide ((S1.out.step (BC4.out _).2 (grown_setCell wc bb 4 _)).step hB5 hg5); obtain ⟨_, dp5, _, d4, g4, BC5⟩ := hB5.count; have BC5 := hide BC5; have g4 := g4 4; have E5 : Hid (Side wc.heap.size (fun _ => False) (fun w2 => (StrsR w2 gl 0 nl (LM d') ∧ gl < w2.heap.size) ∧ Kids 10 (SB (d' + 1) w2) w2 (.slice (some ⟨g2, 0, none⟩) n2 cl2) n2 ps ys) w5) := (hS.base (by simp [World.setCell])); have hsz5 := (grown_trans (grown_setCell wc bb 4 _) hg5).size; clear hS hB5 hg5 S1 BC4 c4 f4)
        go_upto_region 29 with fail
        have S6 := hide (S5.out.step (BC5.out (wrap64 (dp5 - 1))).2 (grown_setCell w5 bb 4 _))
        have E6 := hide (E5.out.step (grown_setCell w5 bb 4 (.int .i64 (wrap64 (dp5 - 1)))) (by omega))
        have hsz6 : wc.heap.size ≤ (w5.setCell ⟨bb, 4, none⟩ (.int .i64 (wrap64 (dp5 - 1)))).heap.size := by simp [World.setCell]; exact hsz5
        obtain ⟨w6, hw6⟩ : ∃ w6, w6 = w5.setCell ⟨bb, 4, none⟩ (.int .i64 (wrap64 (dp5 - 1))) := ⟨_, rfl⟩
        rw [← hw6] at S6 E6 hsz6 ⊢
        clear hw6 S5 E5 BC5 d4 g4
        obtain ⟨KB, hKB⟩ : ∃ KB, KB = wc.heap.size := ⟨_, rfl⟩
        rw [← hKB] at E6 hsz6 hwc
        clear hKB
        go_wp2_with fail
        go_loopw [21, 160] (fun tv kv wr => ∃ k : Nat, k ≤ nl ∧ kv = .int .i64 k ∧ Hid (BkS bb bv N w wr ∧ Strs KB wr tv k (LM (d' + 1)) ∧ Side KB (fun q' => tv.ownBlock = some q') (fun w2 => (StrsR w2 gl 0 nl (LM d') ∧ gl < w2.heap.size) ∧ Kids 10 (SB (d' + 1) w2) w2 (.slice (some ⟨g2, 0, none⟩) n2 cl2) n2 ps ys) wr ∧ KB ≤ wr.heap.size)) (fun _ kv _ => nl - (intOf kv).toNat)
        case atStart => exact ⟨0, by omega, rfl, S6.out, Strs.nil _ _ _, E6.out.keep (Nat.le_refl _) (fun _ _ _ _ => rfl) (fun g' e' => by simp [Value.ownBlock] at e'), hsz6⟩
        case round =>
          obtain ⟨k, hkn, rfl, R⟩ := hrel
          clear S6 E6 hsz6
          by_cases hlt : k < nl
          · have hltI : (k : Int) < (nl : Int) := by omega
            obtain ⟨s0, hc0, hs0⟩ := R.out.2.2.1.now.1.1 k hlt
            rw [Nat.zero_add] at hc0
            obtain ⟨ss, s1, s2, s3⟩ := R.out.2.1
            have H1 := hide s1
            have H2 := hide (s2.alloc (.cells #[.string ((⟨#[62, 32]⟩ : ByteArray) ++ s0)] 9))
            have H3 := hide s3
            have hX : ((⟨#[62, 32]⟩ : ByteArray) ++ s0).size = 2 + s0.size := ByteArray.size_append
            have hKs := R.out.2.2.2
            clear s1 s2 s3
            go_wp2_with (at_builtin; refine wpList_append_lies _ rfl (.tmp 164) (.tmp 167) 40 rfl KB 9 i0 (.string ⟨#[]⟩) 1 16 Tryz.underlying40 hi0 hz0 hz1 hz2 rfl (by decide) _ k (ss.map .string) rfl H2.out ⟨wr.heap.size, 0, none⟩ 1 1 [.string ((⟨#[62, 32]⟩ : ByteArray) ++ s0)] rfl rfl (cellOne _ _ _) (by simp [Value.oneCell']) (by omega) (by unfold maxLen; omega) (by omega) (by rw [World.size_alloc']; omega) (wr.heap.size + 1) (by simp) ?_; intro g9 cap9 w9 hown9 hg9 hat9 hlt9)
            have NX : Hid (BkS bb bv N w w9 ∧ Strs KB w9 (.slice (some ⟨g9, 0, none⟩) (k + 1) cap9) (k + 1) (LM (d' + 1)) ∧ Side KB (fun q' => (Value.slice (some ⟨g9, 0, none⟩) (k + 1) cap9).ownBlock = some q') (fun w2 => (StrsR w2 gl 0 nl (LM d') ∧ gl < w2.heap.size) ∧ Kids 10 (SB (d' + 1) w2) w2 (.slice (some ⟨g2, 0, none⟩) n2 cl2) n2 ps ys) w9 ∧ KB ≤ w9.heap.size) := by
              obtain ⟨r1, r2, r3, r4⟩ := R.out
              have hsz := hg9.size
              rw [World.size_alloc'] at hsz
              refine ⟨(r1.alloc _).newer hg9 (fun k' hk' => by have := (r2.lt k' hk').1; omega), Strs.snoc hown9 H1.out H3.out (by rw [hX]; unfold LM at hs0 ⊢; omega), (r3.alloc (.cells #[.string ((⟨#[62, 32]⟩ : ByteArray) ++ s0)] 9)).keep hg9.size (fun j _ b' c' => hg9.block j b' (fun e' => c' e'.symm)) (fun g' e' => by (rw [World.size_alloc']; exact hat_next hat9 g' e')), by omega⟩
            clear hown9 hg9 hat9 hlt9 R
            go_roundw
            case rel => exact ⟨k + 1, by omega, by go_num, NX.out⟩
            case measure => simp [intOf]; omega
          · obtain rfl : k = nl := by omega
            have hltI : ¬ ((k : Int) < (k : Int)) := by omega
            obtain ⟨r1, r2, r3, r4⟩ := R.out
            obtain ⟨g9, cap9, rfl, hcp1, hcp2, _⟩ := r2.form q1
            have R1 := hide r1
            have R2 := hide r2
            have R3 := hide r3
            clear R r1 r2 r3 r4
            go_wp2_with (refine wpList_store_obj rfl 27 (.tmp 7) (.tmp 172) rfl w.heap.size zeroN (sN 2 ⟨#[]⟩ ⟨#[]⟩ 0 ⟨#[]⟩ false (.slice (some ⟨g2, 0, none⟩) n2 cl2) 0 0) R1.out.hr rfl rfl INFO rfl (sn_one rfl) ?_; rintro W hW; have HW := fun j => heap_cell hW.1 j; have HP := hide (R1.out.done hW q1 (by have := hNLs.out; omega) hcp1 hcp2 rfl (sn_one rfl) hwc ((Side.and (strs_side R2.out) (R3.out.keep (Nat.le_refl _) (fun _ _ _ _ => rfl) (A' := fun _ => False) (fun _ h => h.elim))).mono (K' := fun w2 => (StrsR w2 g9 0 k (LM (d' + 1)) ∧ g9 < w2.heap.size) ∧ SBx (d' + 1) w2 (sN 2 ⟨#[]⟩ ⟨#[]⟩ 0 ⟨#[]⟩ false (.slice (some ⟨g2, 0, none⟩) n2 cl2) 0 0) (_, _)) fun w2 h => ⟨h.1, quote_sb h.2.2 q5 0 0⟩) (L := NL (d' + 1))); clear hW)
            exact bodyPost_ret (v := .tuple #[.slice (some ⟨g9, 0, none⟩) k cap9, .agg (sN 2 ⟨#[]⟩ ⟨#[]⟩ 0 ⟨#[]⟩ false (.slice (some ⟨g2, 0, none⟩) n2 cl2) 0 0)]) (by simp [results, Tryz.results15, go_sem, HW]) rfl HP.out
      · have hdp : 0 < d := HK.out (by omega)
        obtain ⟨d', rfl⟩ : ∃ d', d = d' + 1 := ⟨d - 1, by omega⟩
        have LC2 : Hid (ListC d' bb bv N) := LC.out hdp
        have hdI : ((d' + 1 : Nat) : Int) - 1 = (d' : Int) := by omega
        go_wp2_with (first | (go_at_call 37; refine (LC2.out _ _ S1.out.b).mono ?_; rintro e w5 ⟨gl, nl, cl, cs, x, rfl, q1, q2, q3, q4, hz, h1, hS, hB5, hg5⟩; have S5 := hide (S1.out.step hB5 hg5); have E5 := hide hS; have HZ := hide hz; have H1 := hide h1; clear hS hB5 hg5 hz h1) | (refine wpList_store_obj rfl 27 (.tmp 7) (.tmp 182) rfl w.heap.size zeroN cs S5.out.hr rfl rfl (by rw [HZ.out]; exact INFO) (by rw [HZ.out]; rfl) H1.out ?_; rintro W hW; have HP := hide (S5.out.done hW q1 q2 q3 q4 HZ.out H1.out S1.out.o3 E5.out); obtain ⟨a0, a1, a2, a3, a4, a5, a6, a7, a8, a9, hten⟩ := ten_of_size HZ.out; subst hten; have HW := fun j => heap_cell hW.1 j; clear hW E5))
        exact bodyPost_ret (v := .tuple #[.slice (some ⟨gl, 0, none⟩) nl cl, .agg (#[a0, a1, a2, a3, a4, a5, a6, a7, a8, a9])]) (by simp [results, Tryz.results15, go_sem, HW]) rfl HP.out
      · have hdp : 0 < d := HK.out (by omega)
        obtain ⟨d', rfl⟩ : ∃ d', d = d' + 1 := ⟨d - 1, by omega⟩
        have LC2 : Hid (ListC d' bb bv N) := LC.out hdp
        have hdI : ((d' + 1 : Nat) : Int) - 1 = (d' : Int) := by omega
        go_wp2_with (first | (go_at_call 37; refine (LC2.out _ _ S1.out.b).mono ?_; rintro e w5 ⟨gl, nl, cl, cs, x, rfl, q1, q2, q3, q4, hz, h1, hS, hB5, hg5⟩; have S5 := hide (S1.out.step hB5 hg5); have E5 := hide hS; have HZ := hide hz; have H1 := hide h1; clear hS hB5 hg5 hz h1) | (refine wpList_store_obj rfl 27 (.tmp 7) (.tmp 182) rfl w.heap.size zeroN cs S5.out.hr rfl rfl (by rw [HZ.out]; exact INFO) (by rw [HZ.out]; rfl) H1.out ?_; rintro W hW; have HP := hide (S5.out.done hW q1 q2 q3 q4 HZ.out H1.out S1.out.o3 E5.out); obtain ⟨a0, a1, a2, a3, a4, a5, a6, a7, a8, a9, hten⟩ := ten_of_size HZ.out; subst hten; have HW := fun j => heap_cell hW.1 j; clear hW E5))
        exact bodyPost_ret (v := .tuple #[.slice (some ⟨gl, 0, none⟩) nl cl, .agg (#[a0, a1, a2, a3, a4, a5, a6, a7, a8, a9])]) (by simp [results, Tryz.results15, go_sem, HW]) rfl HP.out
end Go.Proofs.YtipniinmajoolaaGreatDoor
