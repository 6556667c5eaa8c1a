/- A list: builder.list, given what builder.blocks does. The walk. Conditions: the builder's block holds at most 300 readable bytes. -/
import Derived.Test.YtipniinmajoolaaGreatDoorBl11
namespace Go.Proofs.YtipniinmajoolaaGreatDoor
open Go.RowKit
set_option maxHeartbeats 8000000 in
set_option maxRecDepth 100000 in
theorem list_any (d : Nat) (bb : Nat) (bv : Value) (N : Nat) (BC : 0 < d → BlocksC (d - 1) 2 bb bv N) (hd : d ≤ 2) : ListC d bb bv N := by
  intro w odd hB
  have hbl := hB.lt
  have N2 := hide (fun w1 h => next_any bb bv N 2 w1 (by omega) (by omega) h)
  have N30 := hide (fun w1 h => next_any bb bv N 30 w1 (by omega) (by omega) h)
  have N3 := hide (fun w1 h => next_any bb bv N 3 w1 (by omega) (by omega) h)
  have L1 := hide (fun w1 h => (lines_any bb bv N w1 h).mono fun e w' q => lines_q q)
  have HB := hide hB
  have BC := hide BC
  clear hB
  obtain ⟨i0, hi0, hz0, hz1, hz2⟩ := info_parts info_str
  obtain ⟨j0, hj0, hy0, hy1, hy2⟩ := info_parts info_sn
  go_enter Tryz.func37, Tryz.ntmps37
  go_upto_if 22 with fail
  go_cut [] from 23 to 23 (fun wx => ∃ c : ByteArray, (c = ⟨#[45]⟩ ∨ c = ⟨#[43]⟩) ∧ PreL bb bv N w (-1) c wx)
  case first =>
    have P0 : Hid (∀ c, PreL bb bv N w (-1) c ((w.alloc (.cells zeroN 27)).alloc (.cells (listN (-1) c false (.slice none 0 0)) 27))) := fun c => ⟨hbl, by rw [World.size_alloc', World.size_alloc']; omega, grown_trans (World.grownBy_alloc _ _ _) (World.grownBy_alloc _ _ _), (HB.out.alloc _).alloc _, newB2 _ _ _, (Below.heap_alloc _ _ _ (by rw [World.size_alloc']; omega)).trans (newB1 _ _)⟩
    cases odd
    · go_wp2
      go_meet
      case rel => exact ⟨_, .inl rfl, P0.out _⟩
    · go_wp2
      go_meet
      case rel => exact ⟨_, .inr rfl, P0.out _⟩
  case rest =>
    obtain ⟨c0, hc0, P1⟩ := hcut
    have P1 := hide P1
    clear HB
    go_upto_if 26 with (go_at_call 14; refine (N2.out _ P1.out.b).mono ?_; rintro e w1 ⟨r1, rfl, hr1, hB1, hg1⟩; have P2 := hide (P1.out.step hB1 hg1); clear hB1 hg1 P1)
    go_cut [] from 27 to 32 (fun wx => ∃ (num : Int) (c : ByteArray), markOk num c ∧ PreL bb bv N w num c wx)
    case first =>
      rcases (by omega : r1 = 0 ∨ r1 = 1) with rfl | rfl
      · go_wp2
        go_meet
        case rel => exact ⟨-1, c0, .inl ⟨rfl, hc0⟩, P2.out⟩
      · have ARM : Hid (∀ (q : Nat) (w2 : World), BOk bb bv N w2 → w1.grownBy w2 (some bb) → PreL bb bv N w (q : Int) ⟨#[46]⟩ ((w2.setCell ⟨w.heap.size + 1, 3, none⟩ (.int .i64 q)).setCell ⟨w.heap.size + 1, 4, none⟩ (.string ⟨#[46]⟩)) ∧ PreL bb bv N w (-1) c0 w2) :=
          fun q w2 hB hg => ⟨((P2.out.step hB hg).set 3 (.int .i64 q) q c0 rfl).set 4 (.string ⟨#[46]⟩) q ⟨#[46]⟩ rfl, P2.out.step hB hg⟩
        cases odd
        · go_wp2_with (go_at_call 14; refine (N30.out _ P2.out.b).mono ?_; rintro e w2 ⟨q, rfl, hq, hB2, hg2⟩; have A := hide (ARM.out q w2 hB2 hg2); obtain ⟨e3, e4, e5, e6⟩ := A.out.2.cells; clear hB2 hg2)
          go_meet
          case rel => exact ⟨q, ⟨#[46]⟩, .inr ⟨by omega, by omega, .inl rfl⟩, A.out.1⟩
        · go_wp2_with (go_at_call 14; refine (N30.out _ P2.out.b).mono ?_; rintro e w2 ⟨q, rfl, hq, hB2, hg2⟩; have A := hide (ARM.out q w2 hB2 hg2); obtain ⟨e3, e4, e5, e6⟩ := A.out.2.cells; clear hB2 hg2)
          go_meet
          case rel => exact ⟨q, ⟨#[41]⟩, .inr ⟨by omega, by omega, .inr rfl⟩, A.out.1.set 4 (.string ⟨#[41]⟩) q ⟨#[41]⟩ rfl⟩
    case rest =>
      obtain ⟨num, c, hmk, P3⟩ := hcut
      have P3 := hide P3
      have MK := hide hmk
      clear hmk P2 hr1 hc0
      go_upto_region 8 with fail
      go_cut [9] from 33 to 49 (fun lv wx => ∃ lo : Bool, lv = .bool lo ∧ PreL bb bv N w num c wx)
      case first =>
        go_wp2_with (go_at_call 14; refine (N2.out _ P3.out.b).mono ?_; rintro e w2 ⟨q, rfl, hq, hB2, hg2⟩; have A := hide (P3.out.step hB2 hg2); have hfl := hB2.flat; clear hB2 hg2; rcases (by omega : q = 0 ∨ q = 1) with rfl | rfl)
        all_goals
          go_meet
          case rel => exact ⟨_, rfl, A.out⟩
      case rest =>
        obtain ⟨lo, rfl, P4⟩ := hcut
        have P4 := hide P4
        clear P3
        go_wp2_with (go_at_call 14; refine (N3.out _ P4.out.b).mono ?_; rintro e w2 ⟨r, rfl, hr, hB2, hg2⟩; have T0 := hide (liT_start (d := d) (P4.out.step hB2 hg2)); clear hB2 hg2 P4)
        have hNL : NL d ≤ 1000 := by
          rcases (by omega : d = 0 ∨ d = 1 ∨ d = 2) with rfl | rfl | rfl <;> decide
        have hNLg := NL_ge d
        have hLM : LM d ≤ 100 := by unfold LM; omega
        go_loopw [10, 53] (fun tv kv wr => ∃ (k n : Nat) (nv : Value) (xs : List ItemD) (lf : Bool), k ≤ r + 1 ∧ kv = .int .i64 k ∧ Hid (LiT d bb bv N w num c wr tv n nv xs lf) ∧ Hid (xs.length = k ∧ n ≤ k * (2 * NL d + 3) ∧ (0 < k → 0 < n) ∧ (k = 0 → tv = .slice none 0 0 ∧ n = 0))) (fun _ kv _ => r + 1 - (intOf kv).toNat)
        case atStart => exact ⟨0, 0, _, [], false, by omega, rfl, T0.out, rfl, by omega, by omega, fun _ => ⟨rfl, rfl⟩⟩
        case round =>
          obtain ⟨k, n, nv, xs, lf, hk, rfl, T, J⟩ := hrel
          clear T0
          by_cases hlt : k < r + 1
          · have hltI : (k : Int) < 1 + (r : Int) := by omega
            have hib := T.out.C.o3
            have S1 := hide (T.out.item (.slice none 0 0) 0 0)
            go_upto_region 15 with fail
            obtain ⟨ib, hibe⟩ : ∃ ib, ib = wr.heap.size := ⟨_, rfl⟩
            obtain ⟨w4, hw4⟩ : ∃ w4, w4 = wr.alloc (.cells (itemN (.slice none 0 0) 0 0) 27) := ⟨_, rfl⟩
            rw [← hibe] at hib S1 ⊢
            rw [← hw4] at S1 ⊢
            clear hibe hw4 T
            go_cut [61] from 57 to 60 (fun s wx => ∃ b2 : Bool, s = .bool b2 ∧ (b2 = true → 0 < d) ∧ wx = w4)
            case first =>
              by_cases hd0 : 0 < d
              · have hdI : (0 : Int) < (d : Int) := by omega
                cases lo
                · go_wp2
                  go_meet
                  case rel => exact ⟨_, rfl, fun _ => hd0, rfl⟩
                · go_wp2
                  go_meet
                  case rel => exact ⟨_, rfl, fun _ => hd0, rfl⟩
              · have hdI : ¬ (0 : Int) < (d : Int) := by omega
                cases lo
                · go_wp2
                  go_meet
                  case rel => exact ⟨false, rfl, (fun h => (by cases h)), rfl⟩
                · go_wp2
                  go_meet
                  case rel => exact ⟨false, rfl, (fun h => (by cases h)), rfl⟩
            case rest =>
              obtain ⟨b2, rfl, hb2, rfl⟩ := hcut
              have HB2 := hide hb2
              clear hb2
              go_upto_if 61 with fail
              go_cut [13] from 62 to 141 (fun lv wx => ∃ (gl nl cl : Nat) (x : ItemD) (ks : Value) (lf2 : Bool), lv = .slice (some ⟨gl, 0, none⟩) nl cl ∧ 0 < nl ∧ nl ≤ 2 * NL d + 2 ∧ nl ≤ cl ∧ cl ≤ 9223372036854775807 ∧ LiS d bb bv N w num c ib (fun w2 => (StrsR w2 gl 0 nl (LM d) ∧ gl < w2.heap.size) ∧ x.1 ≤ 2 ∧ Kids 10 (SB (d + 1) w2) w2 ks x.1 x.2.1 x.2.2) wx u10 n nv xs lf2 ks 0 0)
              case first =>
                have hfl := S1.out.C.b.flat
                cases b2
                case true =>
                  have hdp : 0 < d := HB2.out rfl
                  obtain ⟨d', rfl⟩ : ∃ d', d = d' + 1 := ⟨d - 1, by omega⟩
                  have hdI : IntKind.i64.wrap (((d' + 1 : Nat) : Int) - 1) = (d' : Int) := by rw [IntKind.wrap_i64] <;> omega
                  have hdI2 : ((d' + 1 : Nat) : Int) - 1 = (d' : Int) := by omega
                  have BC2 : Hid (BlocksC d' 2 bb bv N) := BC.out hdp
                  cases lf
                  all_goals
                    go_wp2_with (go_at_call 9; refine (BC2.out _ S1.out.C.b).mono ?_; rintro e w5 ⟨gl, nl, cl, g2, n2, cl2, ps, ys, rfl, q1, q2, q3, q4, q5, hS, hB5, hg5⟩; have S2 := hide (S1.out.setE hB5 hg5 hS); have S3 := hide ((S2.out.item hib 7 (.slice (some ⟨g2, 0, none⟩) n2 cl2) (.slice (some ⟨g2, 0, none⟩) n2 cl2) 0 0 rfl).list hib 5); obtain ⟨e1, e2, e3, e4, e5, e6, e7, e8, e9⟩ := S2.out.cells; clear hS hB5 hg5 S1)
                    go_meet
                    case rel =>
                      refine ⟨gl, nl, cl, (n2, ps, ys), _, _, rfl, q1, ?_, q3, q4, ((S3.out (.bool _) _ rfl).mapE ((S3.out (.bool _) _ rfl).C.E1.mono fun w2 h => ⟨⟨h.1.1.mono (by unfold LM; omega), h.1.2⟩, q5, h.2.1, h.2.2.1, ?_⟩))⟩
                      · have := NL_succ d'; omega
                      · obtain ⟨cs, a, b⟩ := h.2.2.2
                        exact ⟨cs, a, fun q hq => (b q hq).up⟩
                case false =>
                  go_wp2_with (go_at_call 36; refine (L1.out _ S1.out.C.b).mono ?_; rintro e w5 ⟨gl, nl, cl, gp, np, dp, is, rfl, q1, q2, q3, q4, hT, hS, hB5, hg5⟩; have S2 := hide (S1.out.setE hB5 hg5 (epar_side hT hS)); clear hT hS hB5 hg5 S1)
                  obtain ⟨pN, hpN⟩ : ∃ pN : Array Value, pN = sN 6 ⟨#[]⟩ ⟨#[]⟩ 0 ⟨#[]⟩ false (.slice (some ⟨gp, 0, none⟩) np dp) 1 nl := ⟨_, rfl⟩
                  have S3 := hide ((S2.out.alloc (.cells pN 27)).alloc (.cells pN 27))
                  obtain ⟨e1, e2, e3, e4, e5, e6, e7, e8, e9⟩ := S3.out.cells
                  have S4 : Hid (LiS d bb bv N w num c ib (fun w2 => (StrsR w2 gl 0 nl (LM d) ∧ gl < w2.heap.size) ∧ 1 ≤ 2 ∧ Kids 10 (SB (d + 1) w2) w2 (.slice (some ⟨w5.heap.size + 1, 0, none⟩) 1 1) 1 (fun _ => some (catI (fun k => is.getD k .soft) is.length)) (fun _ => pHTML (catI (fun k => is.getD k .soft) is.length))) ((w5.alloc (.cells pN 27)).alloc (.cells pN 27)) u10 n nv xs lf (.slice none 0 0) 0 0) := by
                    have hK : ∀ w2 : World, (EPar gl nl gp np dp is w2 ∧ RowN 10 w2 (.slice (some ⟨w5.heap.size + 1, 0, none⟩) 1 1) 1 (fun _ => pN)) → ((StrsR w2 gl 0 nl (LM d) ∧ gl < w2.heap.size) ∧ 1 ≤ 2 ∧ Kids 10 (SB (d + 1) w2) w2 (.slice (some ⟨w5.heap.size + 1, 0, none⟩) 1 1) 1 (fun _ => some (catI (fun k => is.getD k .soft) is.length)) (fun _ => pHTML (catI (fun k => is.getD k .soft) is.length))) := fun w2 h =>
                      ⟨⟨h.1.1.1.mono (by unfold LM; omega), h.1.1.2⟩, by omega, by omega, by omega, _, h.2, fun q hq => by rw [hpN]; exact para_sb h.1.2 1 nl⟩
                    refine S3.out.mapE ((Side.and S3.out.C.E1 (Side.block (b := w5.heap.size + 1) (K := fun w2 => RowN 10 w2 (.slice (some ⟨w5.heap.size + 1, 0, none⟩) 1 1) 1 (fun _ => pN)) (fun w2 hb => ?_) ?_ ?_ ?_)).mono hK)
                    · rw [newB2] at hb
                      exact row_one hb
                    · have := S2.out.C.o3; omega
                    · rw [World.size_alloc', World.size_alloc']; omega
                    · intro q
                      have h1 := S2.out.C.avlt
                      have h2 := h1 (w5.heap.size + 1) q
                      omega
                  rw [hpN] at e1 e2 e3 e4 e5 e6 e7 e8 e9 S4
                  clear hpN S2 S3
                  go_region
                  all_goals
                    go_wp2_with fail
                    go_meet
                    case rel => exact ⟨gl, nl, cl, (1, (fun _ => some (catI (fun k => is.getD k .soft) is.length)), (fun _ => pHTML (catI (fun k => is.getD k .soft) is.length))), _, lf, rfl, q1, by omega, q3, q4, (S4.out.item hib 7 (.slice (some ⟨w5.heap.size + 1, 0, none⟩) 1 1) (.slice (some ⟨w5.heap.size + 1, 0, none⟩) 1 1) 0 0 rfl).drew⟩
              case rest =>
                obtain ⟨gl, nl, cl, x, ks, lf2, rfl, q1, q2, q3, q4, S5⟩ := hcut
                have S5 := hide S5
                clear S1 HB2
                obtain ⟨e1, e2, e3, e4, e5, e6, e7, e8, e9⟩ := S5.out.cells
                have hcs : c.size = 1 := by
                  rcases MK.out with ⟨_, h | h⟩ | ⟨_, _, h | h⟩ <;> rw [h] <;> rfl
                go_upto_if 147 with fail
                go_cut [20] from 142 to 154 (fun mv wx => ∃ mk : ByteArray, mv = .string mk ∧ mk.size ≤ 4 ∧ wx = wc)
                case first =>
                  rcases MK.out with ⟨hm, _⟩ | ⟨hm0, hm1, _⟩
                  · have hmI : ¬ (0 : Int) ≤ num := by omega
                    go_wp2
                    go_meet
                    case rel => exact ⟨_, rfl, by rw [ByteArray.size_append, hcs]; decide, rfl⟩
                  · obtain ⟨m, rfl⟩ := Int.eq_ofNat_of_zero_le hm0
                    have D := hide (fun wx => decimal_any (m + k) wx (by omega))
                    have D2 : Hid (∀ wx : World, Calls Tryz.prog 50 #[.int .i64 ((m : Int) + (k : Int))] wx fun e w' => (∃ t : ByteArray, e = .returned (.string t) ∧ t.size ≤ 2) ∧ wx = w') := D.out
                    have hcs2 : (c ++ (⟨#[32]⟩ : ByteArray)).size = 2 := by rw [ByteArray.size_append, hcs]; rfl
                    go_wp2_with (go_at_call 50; refine (D2.out _).mono ?_; rintro e w6 ⟨⟨t, rfl, ht⟩, rfl⟩)
                    go_meet
                    case rel => exact ⟨_, rfl, by rw [ByteArray.size_append, hcs2]; omega, rfl⟩
                case rest =>
                  obtain ⟨mk, rfl, hmks, rfl⟩ := hcut
                  clear e1 e2 e6 e7 hcs
                  go_upto_region 32 with fail
                  go_cut [159] from 155 to 158 (fun s wx => ∃ b3 : Bool, s = .bool b3 ∧ (b3 = true → 0 < k) ∧ wx = wc)
                  case first =>
                    by_cases hk0 : 0 < k
                    · have hkI : (0 : Int) < (k : Int) := by omega
                      cases lo
                      · go_wp2
                        go_meet
                        case rel => exact ⟨_, rfl, fun _ => hk0, rfl⟩
                      · go_wp2
                        go_meet
                        case rel => exact ⟨_, rfl, fun _ => hk0, rfl⟩
                    · have hkI : ¬ (0 : Int) < (k : Int) := by omega
                      go_wp2
                      go_meet
                      case rel => exact ⟨false, rfl, (fun h => (by cases h)), rfl⟩
                  case rest =>
                  obtain ⟨b3, rfl, hb3, rfl⟩ := hcut
                  have HB3 := hide hb3
                  clear hb3
                  go_upto_if 159 with fail
                  go_cut [10] from 155 to 163 (fun tv2 wx => ∃ (n2 : Nat) (lf3 : Bool), n2 ≤ n + 1 ∧ (0 < k → 0 < n2) ∧ (∃ (go : Option Addr) (c2 : Nat), tv2 = .slice go n2 c2) ∧ LiS d bb bv N w num c ib (fun w2 => (StrsR w2 gl 0 nl (LM d) ∧ gl < w2.heap.size) ∧ x.1 ≤ 2 ∧ Kids 10 (SB (d + 1) w2) w2 ks x.1 x.2.1 x.2.2) wx tv2 n2 nv xs lf3 ks 0 0)
                  case first =>
                    have SH : ∃ (go : Option Addr) (c2 : Nat), u10 = .slice go n c2 := by
                      obtain ⟨j1, j2, j3, j4⟩ := J.out
                      by_cases hk0 : k = 0
                      · obtain ⟨h1, h2⟩ := j4 hk0
                        exact ⟨none, 0, by rw [h1, h2]⟩
                      · obtain ⟨g, cap, h1, _⟩ := S5.out.C.T.form (j3 (by omega))
                        exact ⟨_, _, h1⟩
                    obtain ⟨go, c2, rfl⟩ := SH
                    cases b3
                    case false =>
                      have HJ := hide (fun h => J.out.2.2.1 h)
                      go_wp2
                      go_meet
                      case rel => exact ⟨n, lf2, by omega, HJ.out, ⟨_, _, rfl⟩, S5.out⟩
                    case true =>
                      have hk0 := HB3.out rfl
                      have hnb : n ≤ 10000 := by
                        have h1 := J.out.2.1
                        have h2 : k * (2 * NL d + 3) ≤ 3 * 2003 := Nat.mul_le_mul (by omega) (by omega)
                        omega
                      obtain ⟨ss, s1, s2, s3⟩ := S5.out.C.T
                      have H1 := hide s1
                      have H2 := hide (s2.alloc (.cells #[.string ⟨#[]⟩] 9))
                      have H3 := hide s3
                      have hB5 := S5.out.C.o3
                      clear s1 s2 s3 e3 e4 e5 e8 e9
                      go_wp2_with (at_builtin; refine wpList_append_lies _ rfl (.tmp 160) (.tmp 161) 40 rfl (w.heap.size + 2) 9 i0 (.string ⟨#[]⟩) 1 16 Tryz.underlying40 hi0 hz0 hz1 hz2 rfl (by decide) _ n (ss.map .string) rfl H2.out ⟨wc.heap.size, 0, none⟩ 1 1 [.string ⟨#[]⟩] rfl rfl (cellOne _ _ _) (by simp [Value.oneCell']) (by omega) (by unfold maxLen; omega) (by omega) (by rw [World.size_alloc']; omega) (wc.heap.size + 1) (by simp) ?_; intro g6 cap6 w6 hown6 hg6 hat6 hlt6; have S6 := hide ((S5.out.alloc (.cells #[.string ⟨#[]⟩] 9)).text (Strs.snoc hown6 H1.out H3.out (Nat.zero_le _)) hg6 (by rw [World.size_alloc']; exact hat_next hat6)); obtain ⟨e1, e2, e3, e4, e5, e6, e7, e8, e9⟩ := S6.out.cells; clear hown6 hg6 hat6 hlt6)
                      go_meet
                      case rel => exact ⟨n + 1, true, by omega, fun _ => by omega, ⟨_, _, rfl⟩, S6.out.list hib 5 (.bool true) true rfl⟩
                  case rest =>
                    obtain ⟨n2, lf3, hn2, hn3, ⟨go, c2, rfl⟩, S6⟩ := hcut
                    have S6 := hide S6
                    have HN3 := hide hn3
                    clear S5 HB3 e3 e4 e5 e8 e9 hn3
                    obtain ⟨e1, e2, e3, e4, e5, e6, e7, e8, e9⟩ := S6.out.cells
                    go_upto_region 35 with fail
                    go_cut [] from 164 to 173 (fun wx => ∃ f o : Int, LiS d bb bv N w num c ib (fun w2 => (StrsR w2 gl 0 nl (LM d) ∧ gl < w2.heap.size) ∧ x.1 ≤ 2 ∧ Kids 10 (SB (d + 1) w2) w2 ks x.1 x.2.1 x.2.2) wx (.slice go n2 c2) n2 nv xs lf3 ks f o)
                    case first =>
                      go_wp2
                      go_meet
                      case rel => exact ⟨_, _, (S6.out.item hib 8 (.int .i64 _) ks _ 0 rfl).item hib 9 (.int .i64 _) ks _ _ rfl⟩
                    case rest =>
                      obtain ⟨f, o, S7⟩ := hcut
                      have S7 := hide S7
                      clear S6 e1 e2 e3 e4 e5 e6 e7 e8 e9
                      obtain ⟨m, rfl⟩ : ∃ m, nl = m + 1 := ⟨nl - 1, by omega⟩
                      obtain ⟨s0, hc0, hs0⟩ := S7.out.C.E1.now.1.1 0 (by omega)
                      have hnb : n ≤ 10000 := by
                        have h1 := J.out.2.1
                        have h2 : k * (2 * NL d + 3) ≤ 3 * 2003 := Nat.mul_le_mul (by omega) (by omega)
                        omega
                      obtain ⟨ss, s1, s2, s3⟩ := S7.out.C.T
                      have H1 := hide s1
                      have H2 := hide (s2.alloc (.cells #[.string (mk ++ s0)] 9))
                      have H3 := hide s3
                      have hB5 := S7.out.C.o3
                      clear s1 s2 s3
                      go_upto_region 37 with (at_builtin; refine wpList_append_lies _ rfl (.tmp 174) (.tmp 180) 40 rfl (w.heap.size + 2) 9 i0 (.string ⟨#[]⟩) 1 16 Tryz.underlying40 hi0 hz0 hz1 hz2 rfl (by decide) _ n2 (ss.map .string) rfl H2.out ⟨wc.heap.size, 0, none⟩ 1 1 [.string (mk ++ s0)] rfl rfl (cellOne _ _ _) (by simp [Value.oneCell']) (by omega) (by unfold maxLen; omega) (by omega) (by rw [World.size_alloc']; omega) (wc.heap.size + 1) (by simp) ?_; intro g6 cap6 w6 hown6 hg6 hat6 hlt6; have S8 := hide ((S7.out.alloc (.cells #[.string (mk ++ s0)] 9)).text (Strs.snoc hown6 H1.out H3.out (by rw [ByteArray.size_append]; unfold LM at hs0 ⊢; omega)) hg6 (by rw [World.size_alloc']; exact hat_next hat6)); clear hown6 hg6 hat6 hlt6 H1 H2 H3 S7 hc0)
                      have hBi : (Below w6.heap.size w6 w6.drew) := (Below.refl _ _).drew
                      have HR := S8.out.C.E1.now.1
                      have P1 : Hid (Calls Tryz.prog 49 #[.int .i64 (mk.size : Nat)] w6.drew fun e w' => (∃ t : ByteArray, e = .returned (.string t) ∧ t.size = mk.size) ∧ w6.drew = w') := pad_any mk.size _ (by omega)
                      have I1 : Hid (∀ (p : ByteArray) (cc : Nat), p.size ≤ 10 → Calls Tryz.prog 51 #[.string p, .slice (some ⟨gl, 1, none⟩) m cc] w6.drew (IndP m (LM d + 10) w6.drew)) := fun p cc hp => indented_any p gl 1 m cc (LM d) w6.drew HR.1.tail hp (by omega) (by omega) (fun _ => HR.2)
                      have I0 : Hid (m = 0 → ∀ (p : ByteArray) (cc : Nat), p.size ≤ 10 → Calls Tryz.prog 51 #[.string p, .slice (some ⟨gl, 0, none⟩) 0 cc] w6.drew (IndP m (LM d + 10) w6.drew)) := fun hm p cc hp => by subst hm; exact indented_any p gl 0 0 cc (LM d) w6.drew (fun j hj => absurd hj (by omega)) hp (by omega) (by omega) (fun h => absurd h (by omega))
                      obtain ⟨ss, s1, s2, s3⟩ := S8.out.C.T
                      have H1 := hide s1
                      have H2 := hide s2
                      have H3 := hide s3
                      have hB6 := S8.out.C.o3
                      clear s1 s2 s3 HR hBi
                      go_cut [10] from 182 to 188 (fun tv3 wx => ∃ (g3 c3 : Nat), tv3 = .slice (some ⟨g3, 0, none⟩) (n2 + 1 + m) c3 ∧ LiS d bb bv N w num c ib (fun w2 => (StrsR w2 gl 0 (m + 1) (LM d) ∧ gl < w2.heap.size) ∧ x.1 ≤ 2 ∧ Kids 10 (SB (d + 1) w2) w2 ks x.1 x.2.1 x.2.2) wx tv3 (n2 + 1 + m) nv xs lf3 ks f o)
                      case first =>
                        by_cases hm : m = 0
                        · subst hm
                          by_cases hc1 : cl = 1
                          · subst hc1
                            go_region_law (first | (refine step_append_none rfl (.tmp 182) (.tmp 188) 40 rfl (w.heap.size + 2) 9 i0 1 Tryz.underlying40 hi0 _ _ (ss.map .string) rfl H9.out (by rfl) ?_) | (go_simp; go_at_call 49; refine P1.out.mono ?_; rintro e w7 ⟨⟨t, rfl, ht⟩, rfl⟩) | (go_simp; go_at_call 51; refine (I0.out rfl _ _ (by omega)).mono ?_; rintro e w8 ⟨tv9, rfl, hT9, hn9, hb9⟩; obtain rfl := hn9 rfl; have S9 := hide (S8.out.old (below_ofDrew hb9)); have H9 : Hid (w8.ownsRow (w.heap.size + 2) 9 1 (.slice (some ⟨g6, 0, none⟩) (n2 + 1) cap6) (n2 + 1) (ss.map .string)) := own_below H2.out (below_ofDrew hb9) (fun q hq => (H2.out.lt q hq).2); clear hT9 hn9 hb9))
                            all_goals
                              go_wp2_with fail
                              go_meet
                              case rel => exact ⟨g6, cap6, rfl, S9.out⟩
                          · have hc2 : ¬ ((cl : Int) = 1) := by omega
                            go_region_law (first | (refine step_append_none rfl (.tmp 182) (.tmp 188) 40 rfl (w.heap.size + 2) 9 i0 1 Tryz.underlying40 hi0 _ _ (ss.map .string) rfl H9.out (by rfl) ?_) | (go_simp; go_at_call 49; refine P1.out.mono ?_; rintro e w7 ⟨⟨t, rfl, ht⟩, rfl⟩) | (go_simp; go_at_call 51; refine (I1.out _ _ (by omega)).mono ?_; rintro e w8 ⟨tv9, rfl, hT9, hn9, hb9⟩; obtain rfl := hn9 rfl; have S9 := hide (S8.out.old (below_ofDrew hb9)); have H9 : Hid (w8.ownsRow (w.heap.size + 2) 9 1 (.slice (some ⟨g6, 0, none⟩) (n2 + 1) cap6) (n2 + 1) (ss.map .string)) := own_below H2.out (below_ofDrew hb9) (fun q hq => (H2.out.lt q hq).2); clear hT9 hn9 hb9))
                            all_goals
                              go_wp2_with fail
                              go_meet
                              case rel => exact ⟨g6, cap6, rfl, S9.out⟩
                        · have hc1 : ¬ cl = 1 := by omega
                          have hm1 : (1 : Int) ≤ (m : Int) + 1 := by omega
                          have hc2 : ¬ ((cl : Int) = 1) := by omega
                          go_region_law (first | (refine step_append_lies _ rfl (.tmp 182) (.tmp 188) 40 rfl (w.heap.size + 2) 9 i0 (.string ⟨#[]⟩) 1 16 Tryz.underlying40 hi0 hz0 hz1 hz2 rfl (by decide) _ _ (ss.map .string) rfl H9.out ⟨gi, 0, none⟩ m ci (ts.map .string) rfl (by rw [List.length_map, T1.out, Nat.mul_one]) T3.out (fun u hu => by (obtain ⟨s, _, rfl⟩ := List.mem_map.1 hu); rfl) (by omega) (by unfold maxLen; omega) (by omega) hB8 _ rfl ?_; intro g9 cap9 w9 hown9 hg9 hat9 hlt9; have S10 := hide (S9.out.text (Strs.app hown9 H1.out T1.out H3.out T2.out) hg9 (hat_next hat9)); clear hown9 hg9 hat9 hlt9) | (go_simp; go_at_call 49; refine P1.out.mono ?_; rintro e w7 ⟨⟨t, rfl, ht⟩, rfl⟩) | (go_simp; go_at_call 51; refine (I1.out _ _ (by omega)).mono ?_; rintro e w8 ⟨tv9, rfl, hT9, hn9, hb9⟩; obtain ⟨gi, ci, rfl, _, _, _, _⟩ := hT9.form (by omega); obtain ⟨ts, t1, t2, t3⟩ := hT9; have T1 := hide t1; have T2 := hide t3; have T3 := hide (t2.cells (g := gi) rfl); have S9 := hide (S8.out.old (below_ofDrew hb9)); have hB8 := S9.out.C.o3; have H9 : Hid (w8.ownsRow (w.heap.size + 2) 9 1 (.slice (some ⟨g6, 0, none⟩) (n2 + 1) cap6) (n2 + 1) (ss.map .string)) := own_below H2.out (below_ofDrew hb9) (fun q hq => (H2.out.lt q hq).2); clear hn9 hb9 t1 t2 t3))
                          all_goals
                            go_wp2_with fail
                            go_meet
                            case rel => exact ⟨g9, cap9, rfl, S10.out⟩
                      case rest =>
                        obtain ⟨g3, c3, rfl, S9⟩ := hcut
                        have S9 := hide S9
                        obtain ⟨e1, e2, e3, e4, e5, e6, e7, e8, e9⟩ := S9.out.cells
                        have O9 := hide S9.out.hi
                        obtain ⟨css, k1, k2, k3⟩ := (S9.out.alloc (.cells (itemN ks f o) 27)).C.K
                        have hcl : css.length = k := k2.1.trans J.out.1
                        have HCL := hide hcl
                        have K1 := hide k1
                        have K2 := hide k1.1
                        rw [hcl] at K2
                        have KE := hide k2
                        have hB9 := S9.out.C.o3
                        have hks1 := hide (S9.out.C.E1.now.2.2.2.2.choose_spec.1.one)
                        have HEx : Hid (∀ w2 : World, ((StrsR w2 gl 0 (m + 1) (LM d) ∧ gl < w2.heap.size) ∧ x.1 ≤ 2 ∧ Kids 10 (SB (d + 1) w2) w2 ks x.1 x.2.1 x.2.2) → RI d w2 (itemN ks f o) x) := fun w2 h => ⟨ks, f, o, rfl, h.2.1, h.2.2⟩
                        have hone := hide (sn_one (k := 4) (t := ⟨#[]⟩) (ti := ⟨#[]⟩) (n := 0) (c := ⟨#[]⟩) (l := false) (f := f) (o := o) hks1.out)
                        clear hcl k1 k2 k3 e1 e2 e3 e5 e6 e7 e9
                        go_wp2_with (first | (refine wpList_load_obj rfl 27 (.tmp 12) rfl ib (itemN ks f o) _ O9.out rfl Tryz.underlying27 rfl info_sn10 ?_) | (at_builtin; refine wpList_append_lies _ rfl (.tmp 191) (.tmp 193) 25 rfl (w.heap.size + 2) 27 j0 _ 10 136 Tryz.underlying25 hj0 hy0 hy1 hy2 rfl (by decide) _ _ (flat css) rfl K2.out ⟨wc.heap.size, 0, none⟩ 1 1 (itemN ks f o).toList rfl rfl (World.news_of_block (cs := itemN ks f o) (newB1 wc _)) (one_mem hone.out) (by omega) (by unfold maxLen; omega) (by omega) (by rw [World.size_alloc']; omega) (wc.heap.size + 1) (by simp) ?_; intro g10 cap10 w10 hown10 hg10 hat10 hlt10; have T10 := hide (S9.out.next HEx.out hks1.out K1.out KE.out HCL.out hown10 hg10 hat10); have d7 := (heap_cell T10.out.1 7).trans rfl; have f7 := heap_free T10.out.1 7; clear hown10 hg10 hat10 hlt10))
                        have C10 := hide T10.out.2
                        clear T10 d7 f7 S9 K1 K2 KE HCL
                        go_roundw
                        case rel =>
                          obtain ⟨j1, j2, j3, j4⟩ := J.out
                          exact ⟨k + 1, n2 + 1 + m, _, xs ++ [x], lf3, by omega, by go_num, C10, by rw [List.length_append, j1]; rfl, by rw [Nat.succ_mul]; omega, fun _ => by omega, fun h => absurd h (by omega)⟩
                        case measure => simp [intOf]; omega
          · obtain rfl : k = r + 1 := by omega
            have hltI : ¬ (((r + 1 : Nat) : Int) < 1 + (r : Int)) := by omega
            have hnv : ∃ g cap : Nat, nv = .slice (some ⟨g, 0, none⟩) (r + 1) cap := by
              obtain ⟨css, h1, h2, _⟩ := T.out.C.K
              have hl : css.length = r + 1 := h2.1.trans J.out.1
              obtain ⟨g, cap, e, _⟩ := h1.1.form (by omega)
              exact ⟨g, cap, by rw [e, hl]⟩
            obtain ⟨gp, dp, rfl⟩ := hnv
            have hp := T.out.hn
            have hr2 := T.out.hr
            have p0 := heap_cell hp 0
            have p1 := heap_cell hp 1
            have p2 := heap_cell hp 2
            have p3 := heap_cell hp 3
            have p4 := heap_cell hp 4
            have p5 := heap_cell hp 5
            have p6 := heap_cell hp 6
            have p7 := heap_cell hp 7
            have p8 := heap_cell hp 8
            have p9 := heap_cell hp 9
            have r0 := heap_cell hr2 0
            have r1 := heap_cell hr2 1
            have r2 := heap_cell hr2 2
            have r3 := heap_cell hr2 3
            have r4 := heap_cell hr2 4
            have r5 := heap_cell hr2 5
            have r6 := heap_cell hr2 6
            have r7 := heap_cell hr2 7
            have r8 := heap_cell hr2 8
            have r9 := heap_cell hr2 9
            have rf := fun j => heap_free hr2 j
            clear hp hr2
            go_wp2_with fail
            go_region
            all_goals
              have H10 := ten_stored wr w.heap.size _ _ _ _ _ _ _ _ _ _ _ (.int .i64 3) (.string ⟨#[]⟩) (.string ⟨#[]⟩) (.int .i64 num) (.string c) (.bool lf) (.slice none 0 0) (.slice (some ⟨gp, 0, none⟩) (r + 1) dp) (.int .i64 0) (.int .i64 0) T.out.hr
              clear p0 p1 p2 p3 p4 p5 p6 p7 p8 p9 r0 r1 r2 r3 r4 r5 r6 r7 r8 r9 rf
              obtain ⟨hW, hgW⟩ := H10
              generalize ((((((((((wr.setCell ⟨w.heap.size, 0, none⟩ (.int .i64 3)).setCell ⟨w.heap.size, 1, none⟩ (.string ⟨#[]⟩)).setCell ⟨w.heap.size, 2, none⟩ (.string ⟨#[]⟩)).setCell ⟨w.heap.size, 3, none⟩ (.int .i64 num)).setCell ⟨w.heap.size, 4, none⟩ (.string c)).setCell ⟨w.heap.size, 5, none⟩ (.bool lf)).setCell ⟨w.heap.size, 6, none⟩ (.slice none 0 0)).setCell ⟨w.heap.size, 7, none⟩ (.slice (some ⟨gp, 0, none⟩) (r + 1) dp)).setCell ⟨w.heap.size, 8, none⟩ (.int .i64 0)).setCell ⟨w.heap.size, 9, none⟩ (.int .i64 0)) = W at hW hgW ⊢
              have HW := fun j => heap_cell hW j
              have HP : Hid (NodeP (SBx (d + 1)) bb bv N (NL (d + 1)) (LM (d + 1)) w (.returned (.tuple #[u10, .agg (listN num c lf (.slice (some ⟨gp, 0, none⟩) (r + 1) dp))])) W.drew) := by
                obtain ⟨j1, j2, j3, j4⟩ := J.out
                refine list_end T.out MK.out j1 (by omega) (by omega) (j3 (by omega)) ?_ (grown_drew hgW)
                have h2 : (r + 1) * (2 * NL d + 3) ≤ 3 * (2 * NL d + 3) := Nat.mul_le_mul_right _ (by omega)
                have := NL_succ d
                omega
              clear hW hgW T J
              go_wp2
              exact bodyPost_ret (v := .tuple #[u10, .agg (listN num c lf (.slice (some ⟨gp, 0, none⟩) (r + 1) dp))]) (by simp [results, Tryz.results37, go_sem, HW]) rfl HP.out
end Go.Proofs.YtipniinmajoolaaGreatDoor
