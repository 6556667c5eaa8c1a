/- The contract of the package's parseLinkDest: the same as the reference's ReadDest of the text from the place on. Conditions: texts of at most 1000 bytes without other names, the table of entities as its initialiser lays it, at most 32 opening parentheses, what is read without brackets is not loose. -/
import Derived.Test.YteondohagdfgeaaDoorDestR
import Derived.WalkMore
namespace Go.Proofs.YteondohagdfgeaaDoor
open Go.RowKit
def pdV (u : ByteArray) (i a : Nat) : Option Nat → Nat → Value
  | some m, c => .tuple #[.string (unR (u.extract a m) 0), .int .i64 ((i + m + c : Nat) : Int), .bool true]
  | none, _ => .tuple #[.string ⟨#[]⟩, .int .i64 0, .bool false]
theorem tail_bt {s : ByteArray} {i p : Nat} (hi : i ≤ p) (hp : p < s.size) : bt (s.extract i s.size) (p - i) = bt s p := by
  rw [bt_extract s i s.size (p - i) (by omega) (Nat.le_refl _)]; congr 1; omega
theorem tail_size {s : ByteArray} {i : Nat} : (s.extract i s.size).size = s.size - i := by rw [ByteArray.size_extract]; omega
theorem tail_piece {s : ByteArray} {i a p : Nat} (hp : p ≤ s.size) (hi : i + a ≤ p) : (s.extract i s.size).extract a (p - i) = s.extract (i + a) p := by
  rw [ByteArray.extract_extract]; congr 1; omega
set_option maxHeartbeats 2000000 in
theorem parseDest_ang (s : ByteArray) (i : Nat) (w : World) (hs : s.size ≤ 1000) (hi : i < s.size) (h60 : bt s i = 60) (hE : EntIs w) (hO : NoOther s) (hL : LinedT s)
    (hnl : ∀ k, k + 1 < (s.extract i s.size).size → bt (s.extract i s.size) k = 92 → bt (s.extract i s.size) (k + 1) ≠ 10 ∧ bt (s.extract i s.size) (k + 1) ≠ 13) :
    Calls Tryd.prog 30 #[.string s, .int .i64 i] w fun e w' => e = .returned (pdV (s.extract i s.size) i 1 (angD (s.extract i s.size) 1) 1) ∧ Below w.heap.size w w' := by
  have hb := get_bt s
  have c0 : (bt s i == 60) = true := by simp [h60]
  have HE := hide hE
  have HO := hide hO
  have HL := hide hnl
  have hsz := hide (tail_size (s := s) (i := i))
  have H13 := hide hL
  have hiI : ¬ ((s.size : Int) ≤ (i : Int)) := by omega
  clear h60 hE hO hnl hL
  go_enter Tryd.func30, Tryd.ntmps30
  go_wp2
  go_step3
  go_wp2
  go_loop [7] (fun kv => ∃ p : Nat, i + 1 ≤ p ∧ p ≤ s.size + 1 ∧ kv = .int .i64 p ∧ Hid (angD (s.extract i s.size) (p - i) = angD (s.extract i s.size) 1)) (fun kv => s.size + 1 - (intOf kv).toNat)
  case atStart => exact ⟨i + 1, by omega, by omega, by go_num, by unfold Hid; rw [show i + 1 - i = 1 by omega]⟩
  case round =>
    obtain ⟨p, hp1, hp, rfl, hA⟩ := hrel
    by_cases hlt : p < s.size
    · have hbt := hide (tail_bt (s := s) (show i ≤ p by omega) hlt)
      have hlu : Hid (p - i < (s.extract i s.size).size) := by unfold Hid; rw [hsz.out]; omega
      by_cases h62 : bt s p = 62
      · have c1 : (bt s p == 62) = true := by simp [h62]
        have c2 : (bt s p == 60) = false := by simp [h62]
        have c3 : (bt s p == 10) = false := by simp [h62]
        have hn : Hid (pdV (s.extract i s.size) i 1 (angD (s.extract i s.size) 1) 1 = .tuple #[.string (unR (s.extract (i + 1) p) 0), .int .i64 ((p : Int) + 1), .bool true]) := by
          unfold Hid
          rw [← hA.out, ang_here hlu.out (by rw [hbt.out, h62])]
          show Value.tuple #[.string (unR ((s.extract i s.size).extract 1 (p - i)) 0), .int .i64 ((i + (p - i) + 1 : Nat) : Int), .bool true] = _
          rw [tail_piece (by omega) (by omega), show i + (p - i) + 1 = p + 1 by omega]
          rfl
        have C := hide (fun W (h : EntIs W) => mdUnescape_any (s.extract (i + 1) p) W (by rw [ByteArray.size_extract]; omega) h (noOther_piece (by omega) HO.out))
        clear h62
        go_wp2_with (go_at_call 27; refine (C.out _ HE.out).mono ?_; rintro e w1 ⟨rfl, hb1⟩)
        try rw [Exit.noGoto_ret]
        go_ret3
        exact ⟨hn.out.symm ▸ rfl, hb1⟩
      · have c1 : (bt s p == 62) = false := by simp [h62]
        by_cases h10 : bt s p = 10
        · have c3 : (bt s p == 10) = true := by simp [h10]
          have hn : Hid (pdV (s.extract i s.size) i 1 (angD (s.extract i s.size) 1) 1 = .tuple #[.string ⟨#[]⟩, .int .i64 0, .bool false]) := by
            unfold Hid; rw [← hA.out, ang_stop hlu.out (by rw [hbt.out, h10]; decide)]; rfl
          clear h62 h10
          go_wp2
          try rw [Exit.noGoto_ret]
          go_ret3
          exact ⟨hn.out.symm ▸ rfl, Below.refl _ _⟩
        · have c3 : (bt s p == 10) = false := by simp [h10]
          by_cases h60 : bt s p = 60
          · have c4 : (bt s p == 60) = true := by simp [h60]
            have hn : Hid (pdV (s.extract i s.size) i 1 (angD (s.extract i s.size) 1) 1 = .tuple #[.string ⟨#[]⟩, .int .i64 0, .bool false]) := by
              unfold Hid; rw [← hA.out, ang_stop hlu.out (by rw [hbt.out, h60]; decide)]; rfl
            clear h62 h10 h60
            go_wp2
            try rw [Exit.noGoto_ret]
            go_ret3
            exact ⟨hn.out.symm ▸ rfl, Below.refl _ _⟩
          · have c4 : (bt s p == 60) = false := by simp [h60]
            by_cases h92 : bt s p = 92
            · have c5 : (bt s p == 92) = true := by simp [h92]
              have hn : Hid (angD (s.extract i s.size) (p + 2 - i) = angD (s.extract i s.size) 1) := by
                unfold Hid
                rw [← hA.out, ang_two hlu.out (by rw [hbt.out, h92]) (fun h => HL.out _ h (by rw [hbt.out, h92])), show p - i + 2 = p + 2 - i by omega]
              clear h62 h10 h60 h92
              go_wp2
              go_round
              case rel => (repeat apply Exists.intro); exact ⟨⟨p + 2, by omega, by omega, by go_num, hn⟩, rfl, rfl, rfl, rfl⟩
              case measure => simp [intOf]; omega
            · have c5 : (bt s p == 92) = false := by simp [h92]
              have h13 : bt s p ≠ 13 := by have := H13.out p hlt; omega
              have hn : Hid (angD (s.extract i s.size) (p + 1 - i) = angD (s.extract i s.size) 1) := by
                unfold Hid
                rw [← hA.out, ang_else hlu.out (esc_92 (by rw [hbt.out]; exact h92)) (by rw [hbt.out]; exact h62) (by rw [hbt.out]; rintro (e | e | e); exact h60 e; exact h10 e; exact h13 e), show p - i + 1 = p + 1 - i by omega]
              clear h62 h10 h60 h92 h13
              go_wp2
              go_round
              case rel => (repeat apply Exists.intro); exact ⟨⟨p + 1, by omega, by omega, by go_num, hn⟩, rfl, rfl, rfl, rfl⟩
              case measure => simp [intOf]; omega
    · have hn : Hid (pdV (s.extract i s.size) i 1 (angD (s.extract i s.size) 1) 1 = .tuple #[.string ⟨#[]⟩, .int .i64 0, .bool false]) := by
        unfold Hid; rw [← hA.out, ang_end (by rw [hsz.out]; omega)]; rfl
      have hltI : (s.size : Int) ≤ (p : Int) := by omega
      clear hlt
      go_wp2
      go_ret3
      exact ⟨hn.out.symm ▸ rfl, Below.refl _ _⟩
set_option maxHeartbeats 2000000 in
theorem parseDest_run (s : ByteArray) (i m : Nat) (w : World) (hs : s.size ≤ 1000) (hi : i < s.size) (h60 : bt s i ≠ 60) (hE : EntIs w) (hO : NoOther s) (hL : LinedT s) (hc : cntP s s.size ≤ 32)
    (hm : runD (s.extract i s.size) 0 0 = some m) :
    Calls Tryd.prog 30 #[.string s, .int .i64 i] w fun e w' => e = .returned (pdV (s.extract i s.size) i 0 (some m) 0) ∧ Below w.heap.size w w' := by
  have hb := get_bt s
  have c0 : (bt s i == 60) = false := by simp [h60]
  have HE := hide hE
  have HO := hide hO
  have HL := hide hL
  have HM := hide hm
  have hsz := hide (tail_size (s := s) (i := i))
  have hiI : ¬ ((s.size : Int) ≤ (i : Int)) := by omega
  clear h60 hE hO hL hm
  go_enter Tryd.func30, Tryd.ntmps30
  go_wp2
  go_step3
  go_wp2
  go_step3
  go_wp2
  go_loop [8, 9] (fun dv kv => ∃ (d p : Nat), i ≤ p ∧ p ≤ s.size ∧ dv = .int .i64 d ∧ kv = .int .i64 p ∧ d ≤ cntP s p ∧ d ≤ p ∧ Hid (runD (s.extract i s.size) (p - i) d = some m)) (fun _ kv => s.size - (intOf kv).toNat)
  case atStart => exact ⟨0, i, by omega, by omega, rfl, rfl, by omega, by omega, by unfold Hid; rw [Nat.sub_self]; exact HM.out⟩
  case round =>
    obtain ⟨d, p, hp1, hp, rfl, rfl, hd, hdp, hR⟩ := hrel
    have fin : p - i = m → Hid (pdV (s.extract i s.size) i 0 (some m) 0 = .tuple #[.string (unR (s.extract i p) 0), .int .i64 (p : Int), .bool true]) := fun h => by
      unfold Hid
      subst h
      show Value.tuple #[.string (unR ((s.extract i s.size).extract 0 (p - i)) 0), .int .i64 ((i + (p - i) + 0 : Nat) : Int), .bool true] = _
      rw [tail_piece (by omega) (by omega), show i + (p - i) + 0 = p by omega]
      rfl
    have ends : ((s.extract i s.size).size ≤ p - i ∨ blkB (bt (s.extract i s.size) (p - i)) = true) → p - i = m := fun h => by
      have := hR.out
      rw [run_end h] at this
      split at this
      · exact Option.some.inj this
      · cases this
    have C := hide (fun W (h : EntIs W) => mdUnescape_any (s.extract i p) W (by rw [ByteArray.size_extract]; omega) h (noOther_piece (by omega) HO.out))
    by_cases hlt : p < s.size
    · have hbt := hide (tail_bt (s := s) hp1 hlt)
      have hlu : Hid (p - i < (s.extract i s.size).size) := by unfold Hid; rw [hsz.out]; omega
      by_cases hbk : blkB (bt s p) = true
      · have hfin := fin (ends (.inr (by rw [hbt.out]; exact hbk)))
        have hl := HL.out p hlt
        have hk : bt s p = 32 ∨ bt s p = 10 := by
          unfold blkB at hbk
          have := of_decide_eq_true hbk
          omega
        clear fin ends hl hbk
        rcases hk with h | h
        · have c1 : (bt s p == 40) = false := by simp [h]
          have c2 : (bt s p == 41) = false := by simp [h]
          have c3 : (bt s p == 92) = false := by simp [h]
          have c4 : (bt s p == 32) = true := by simp [h]
          clear h
          go_wp2_with (go_at_call 27; refine (C.out _ HE.out).mono ?_; rintro e w1 ⟨rfl, hb1⟩)
          try rw [Exit.noGoto_ret]
          go_ret3
          exact ⟨hfin.out.symm ▸ rfl, hb1⟩
        · have c1 : (bt s p == 40) = false := by simp [h]
          have c2 : (bt s p == 41) = false := by simp [h]
          have c3 : (bt s p == 92) = false := by simp [h]
          have c4 : (bt s p == 32) = false := by simp [h]
          have c5 : (bt s p == 9) = false := by simp [h]
          have c6 : (bt s p == 10) = true := by simp [h]
          clear h
          go_wp2_with (go_at_call 27; refine (C.out _ HE.out).mono ?_; rintro e w1 ⟨rfl, hb1⟩)
          try rw [Exit.noGoto_ret]
          go_ret3
          exact ⟨hfin.out.symm ▸ rfl, hb1⟩
      · have hbk : blkB (bt s p) = false := by simpa using hbk
        have hbu : Hid (blkB (bt (s.extract i s.size) (p - i)) = false) := by unfold Hid; rw [hbt.out]; exact hbk
        clear ends
        by_cases h40 : bt s p = 40
        · have c1 : (bt s p == 40) = true := by simp [h40]
          have hn : Hid (runD (s.extract i s.size) (p + 1 - i) (d + 1) = some m) := by
            unfold Hid; rw [← hR.out, run_open hlu.out (by rw [hbt.out, h40]), show p - i + 1 = p + 1 - i by omega]
          have hc1 : d + 1 ≤ cntP s (p + 1) := by rw [cnt_yes h40]; omega
          have hc2 : d + 1 ≤ 32 := by have := cnt_mono s (show p + 1 ≤ s.size from hlt); omega
          clear h40 fin
          go_wp2
          go_round
          case rel => first | exact ⟨d + 1, p + 1, by omega, by omega, by go_num, by go_num, hc1, by omega, hn⟩ | ((repeat apply Exists.intro); exact ⟨⟨d + 1, p + 1, by omega, by omega, by go_num, by go_num, hc1, by omega, hn⟩, rfl, rfl, rfl, rfl⟩)
          case measure => simp [intOf]; omega
        · have c1 : (bt s p == 40) = false := by simp [h40]
          have hc1 : d ≤ cntP s (p + 1) := by rw [cnt_no h40]; exact hd
          by_cases h41 : bt s p = 41
          · have c2 : (bt s p == 41) = true := by simp [h41]
            by_cases h0 : d = 0
            · subst h0
              have hfin := fin (by
                have := hR.out
                rw [run_here hlu.out (by rw [hbt.out, h41])] at this
                exact Option.some.inj this)
              clear h40 h41 fin
              go_wp2_with (go_at_call 27; refine (C.out _ HE.out).mono ?_; rintro e w1 ⟨rfl, hb1⟩)
              try rw [Exit.noGoto_ret]
              go_ret3
              exact ⟨hfin.out.symm ▸ rfl, hb1⟩
            · have c3 : ((d : Int) == 0) = false := by simp; omega
              have hn : Hid (runD (s.extract i s.size) (p + 1 - i) (d - 1) = some m) := by
                unfold Hid; rw [← hR.out, run_shut hlu.out (by rw [hbt.out, h41]) (by omega), show p - i + 1 = p + 1 - i by omega]
              have hd1 : Hid (((d - 1 : Nat) : Int) = (d : Int) - 1) := by unfold Hid; omega
              clear h40 h41 fin
              go_wp2
              go_round
              case rel => first | exact ⟨d - 1, p + 1, by omega, by omega, by rw [hd1.out], by go_num, by omega, by omega, hn⟩ | ((repeat apply Exists.intro); exact ⟨⟨d - 1, p + 1, by omega, by omega, by rw [hd1.out], by go_num, by omega, by omega, hn⟩, rfl, rfl, rfl, rfl⟩)
              case measure => simp [intOf]; omega
          · have c2 : (bt s p == 41) = false := by simp [h41]
            by_cases h92 : bt s p = 92
            · have c3 : (bt s p == 92) = true := by simp [h92]
              have hx : p + 1 < s.size ∧ pcB (bt s (p + 1)) = true := by
                by_cases g : p - i + 1 < (s.extract i s.size).size ∧ pcB (bt (s.extract i s.size) (p - i + 1)) = true
                · have g1 := g.1
                  rw [hsz.out] at g1
                  have g2 := g.2
                  rw [show p - i + 1 = p + 1 - i by omega, tail_bt (by omega) (by omega)] at g2
                  exact ⟨by omega, g2⟩
                · have := hR.out
                  rw [run_bad hlu.out (by rw [hbt.out, h92]) g] at this
                  cases this
              obtain ⟨x1, x2⟩ := hx
              have hn : Hid (runD (s.extract i s.size) (p + 2 - i) d = some m) := by
                unfold Hid
                rw [← hR.out, run_esc (k := p - i) (by rw [hsz.out]; omega) (by rw [hbt.out, h92]) (by rw [show p - i + 1 = p + 1 - i by omega, tail_bt (by omega) (by omega)]; exact x2), show p - i + 2 = p + 2 - i by omega]
              have hc3 : d ≤ cntP s (p + 2) := Nat.le_trans hc1 (cnt_mono s (by omega))
              have c4 : (bt s (p + 1) == 32) = false := by simp; intro e; rw [e] at x2; exact absurd x2 (by decide)
              have c5 : (bt s (p + 1) == 9) = false := by simp; intro e; rw [e] at x2; exact absurd x2 (by decide)
              have x1I : (p : Int) + 1 < (s.size : Int) := by omega
              clear h40 h41 h92 fin x2
              go_wp2
              go_round
              case rel => first | exact ⟨d, p + 2, by omega, by omega, by go_num, by go_num, hc3, by omega, hn⟩ | ((repeat apply Exists.intro); exact ⟨⟨d, p + 2, by omega, by omega, by go_num, by go_num, hc3, by omega, hn⟩, rfl, rfl, rfl, rfl⟩)
              case measure => simp [intOf]; omega
            · have c3 : (bt s p == 92) = false := by simp [h92]
              have c4 : (bt s p == 32) = false := by simp; intro e; rw [e] at hbk; exact absurd hbk (by decide)
              have c5 : (bt s p == 9) = false := by simp; intro e; rw [e] at hbk; exact absurd hbk (by decide)
              have c6 : (bt s p == 10) = false := by simp; intro e; rw [e] at hbk; exact absurd hbk (by decide)
              have hn : Hid (runD (s.extract i s.size) (p + 1 - i) d = some m) := by
                unfold Hid; rw [← hR.out, run_else hlu.out hbu.out (by rw [hbt.out]; exact h92) (by rw [hbt.out]; exact h40) (by rw [hbt.out]; exact h41), show p - i + 1 = p + 1 - i by omega]
              clear h40 h41 h92 fin
              go_wp2
              go_round
              case rel => first | exact ⟨d, p + 1, by omega, by omega, by go_num, by go_num, hc1, by omega, hn⟩ | ((repeat apply Exists.intro); exact ⟨⟨d, p + 1, by omega, by omega, by go_num, by go_num, hc1, by omega, hn⟩, rfl, rfl, rfl, rfl⟩)
              case measure => simp [intOf]; omega
    · obtain rfl : p = s.size := by omega
      have hfin := fin (ends (.inl (by rw [hsz.out]; exact Nat.le_refl _)))
      clear fin ends
      go_wp2_with (go_at_call 27; refine (C.out _ HE.out).mono ?_; rintro e w1 ⟨rfl, hb1⟩)
      try rw [Exit.noGoto_ret]
      go_ret3
      exact ⟨hfin.out.symm ▸ rfl, hb1⟩
end Go.Proofs.YteondohagdfgeaaDoor
