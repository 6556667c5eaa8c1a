/- Contracts of the reference's tagName, pastBlank, OpenTag and ClosingTag. Conditions: texts of line feeds and printable bytes, of at most 1000 bytes. -/
import Derived.Test.YtfmclgmcadiikaaGreatTag
namespace Go.Proofs.YtfmclgmcadiikaaGreat
open Go.RowKit
theorem tc_cases {c : Int} (h : tcB c = true) : ltB c = true ∨ (ltB c = false ∧ dgB c = true) ∨ (ltB c = false ∧ dgB c = false ∧ (c == 45) = true) := by
  by_cases h1 : ltB c = true
  · exact .inl h1
  have h1 : ltB c = false := by simpa using h1
  by_cases h2 : dgB c = true
  · exact .inr (.inl ⟨h1, h2⟩)
  have h2 : dgB c = false := by simpa using h2
  refine .inr (.inr ⟨h1, h2, ?_⟩)
  have h0 := ld_not h1 h2
  unfold tcB at h
  rw [h0] at h
  simpa using h
theorem tc_nocases {c : Int} (h : tcB c = false) : ltB c = false ∧ dgB c = false ∧ (c == 45) = false := by
  unfold tcB at h
  rw [Bool.or_eq_false_iff] at h
  have := ld_no h.1
  exact ⟨this.1, this.2, by simpa using h.2⟩
set_option maxHeartbeats 1000000 in
theorem tagName_any (s : ByteArray) (i : Nat) (w : World) (hs : s.size ≤ 1000) (hi : i ≤ s.size) : Calls Tryz.prog 19 #[.string s, .int .i64 i] w fun e w' => e = .returned (.int .i64 (idxI (tnE s i))) ∧ w = w' := by
  have hb := get_bt s
  by_cases h1 : i < s.size
  case neg =>
    have hN : Hid (tnE s i = none) := by unfold Hid tnE; rw [if_neg (fun x => h1 x.1)]
    have h1I : (s.size : Int) ≤ (i : Int) := by omega
    clear h1
    go_enter Tryz.func19, Tryz.ntmps19
    go_wp2
    go_ret
    exact ⟨ret_int (by rw [hN.out]; rfl), rfl⟩
  have h1I : ¬ ((s.size : Int) ≤ (i : Int)) := by omega
  by_cases h2 : ltB (bt s i) = true
  case neg =>
    have hN : Hid (tnE s i = none) := by unfold Hid tnE; rw [if_neg (fun x => h2 x.2)]
    have h2 : ltB (bt s i) = false := by simpa using h2
    go_enter Tryz.func19, Tryz.ntmps19
    go_wp2_with (go_at_call 15; refine (isLetter_any _ _).mono ?_; rintro e w' ⟨rfl, rfl⟩)
    go_ret
    exact ⟨ret_int (by rw [hN.out]; rfl), rfl⟩
  have hN : Hid (tnE s i = some (scan tcB s i)) := by unfold Hid tnE; rw [if_pos ⟨h1, h2⟩]
  go_enter Tryz.func19, Tryz.ntmps19
  go_wp2_with (go_at_call 15; refine (isLetter_any _ _).mono ?_; rintro e w' ⟨rfl, rfl⟩)
  clear h2 h1I
  go_loop [1] (fun i' => ∃ k : Nat, i ≤ k ∧ k ≤ s.size ∧ i' = .int .i64 k ∧ Hid (∀ j, i ≤ j → j < k → tcB (bt s j) = true)) (fun i => s.size - (intOf i).toNat)
  case atStart => exact ⟨i, by omega, by omega, rfl, fun j h h' => absurd h (by omega)⟩
  case round =>
    obtain ⟨k, hik, hk, rfl, hn⟩ := hrel
    by_cases hlt : k < s.size
    · by_cases hc : tcB (bt s k) = true
      · have hend : Hid (∀ j, i ≤ j → j < k + 1 → tcB (bt s j) = true) := by
          intro j a b
          by_cases e : j = k
          · subst e; exact hc
          · exact hn j a (by omega)
        have hcs := tc_cases hc
        clear hc
        rcases hcs with g1 | ⟨g1, g2⟩ | ⟨g1, g2, g3⟩
        all_goals
          go_wp2_with (first | (go_at_call 15; refine (isLetter_any _ _).mono ?_; rintro e w' ⟨rfl, rfl⟩) | (go_at_call 32; refine (isDigit_any _ _).mono ?_; rintro e w' ⟨rfl, rfl⟩))
          go_round
          case rel => exact ⟨k + 1, by omega, by omega, by go_num, hend⟩
          case measure => simp [intOf]; omega
      · have hc : tcB (bt s k) = false := by simpa using hc
        have hE : Hid (scan tcB s i = k) := scan_eq hik hk (fun j a b => hn j a b) (.inr hc)
        obtain ⟨g1, g2, g3⟩ := tc_nocases hc
        clear hc
        go_wp2_with (first | (go_at_call 15; refine (isLetter_any _ _).mono ?_; rintro e w' ⟨rfl, rfl⟩) | (go_at_call 32; refine (isDigit_any _ _).mono ?_; rintro e w' ⟨rfl, rfl⟩))
        go_ret
        exact ⟨ret_int (by rw [hN.out, hE.out]; rfl), rfl⟩
    · obtain rfl : k = s.size := by omega
      have hE : Hid (scan tcB s i = s.size) := scan_eq hik hk (fun j a b => hn j a b) (.inl rfl)
      go_wp2
      go_ret
      exact ⟨ret_int (by rw [hN.out, hE.out]; rfl), rfl⟩
set_option maxHeartbeats 1000000 in
theorem pastBlank_any (s : ByteArray) (i : Nat) (w : World) (hs : s.size ≤ 1000) (hi : i ≤ s.size) (hL : LinedT s) : Calls Tryz.prog 20 #[.string s, .int .i64 i] w fun e w' => e = .returned (.int .i64 (scan blB s i : Nat)) ∧ w = w' := by
  have hb := get_bt s
  have HB := hide (bk_bl hL i)
  clear hL
  go_enter Tryz.func20, Tryz.ntmps20
  go_wp2
  go_loop [1] (fun i' => ∃ k : Nat, i ≤ k ∧ k ≤ s.size ∧ i' = .int .i64 k ∧ Hid (∀ j, i ≤ j → j < k → bkB (bt s j) = true)) (fun i => s.size - (intOf i).toNat)
  case atStart => exact ⟨i, by omega, by omega, rfl, fun j h h' => absurd h (by omega)⟩
  case round =>
    obtain ⟨k, hik, hk, rfl, hn⟩ := hrel
    by_cases hlt : k < s.size
    · by_cases hc : bkB (bt s k) = true
      · have hend : Hid (∀ j, i ≤ j → j < k + 1 → bkB (bt s j) = true) := by
          intro j a b
          by_cases e : j = k
          · subst e; exact hc
          · exact hn j a (by omega)
        go_wp2_with (go_at_call 33; refine (isBlank_any _ _).mono ?_; rintro e w' ⟨rfl, rfl⟩)
        go_round
        case rel => exact ⟨k + 1, by omega, by omega, by go_num, hend⟩
        case measure => simp [intOf]; omega
      · have hc : bkB (bt s k) = false := by simpa using hc
        have hE : Hid (scan bkB s i = k) := scan_eq hik hk (fun j a b => hn j a b) (.inr hc)
        go_wp2_with (go_at_call 33; refine (isBlank_any _ _).mono ?_; rintro e w' ⟨rfl, rfl⟩)
        go_ret
        exact ⟨ret_int (by rw [← HB.out, hE.out]), rfl⟩
    · obtain rfl : k = s.size := by omega
      have hE : Hid (scan bkB s i = s.size) := scan_eq hik hk (fun j a b => hn j a b) (.inl rfl)
      go_wp2
      go_ret
      exact ⟨ret_int (by rw [← HB.out, hE.out]), rfl⟩
/-- The length of the open tag that a text begins with; 0 without. -/
def otN (u : ByteArray) : Nat := if bt u 0 = 60 then ((tnE u 1).bind (otE u)).getD 0 else 0
theorem tn_le {s : ByteArray} {i e : Nat} (h : tnE s i = some e) : i < e ∧ e ≤ s.size := by
  unfold tnE at h
  split at h
  · rename_i x
    have hc : tcB (bt s i) = true := by unfold tcB; rw [ld_of_lt x.2]; rfl
    have h1 := scan_step (p := tcB) x.1 hc
    have h2 := scan_is tcB s (i := i + 1) (by omega)
    obtain rfl := Option.some.inj h
    rw [h1]
    omega
  · cases h
abbrev PBc (u : ByteArray) (a : Int) (r : Nat) : Prop := ∀ wx : World, Calls Tryz.prog 20 #[.string u, .int .i64 a] wx fun e w' => e = .returned (.int .i64 (r : Nat)) ∧ wx = w'
abbrev ANc (u : ByteArray) (a : Int) (r : Int) : Prop := ∀ wx : World, Calls Tryz.prog 21 #[.string u, .int .i64 a] wx fun e w' => e = .returned (.int .i64 r) ∧ wx = w'
abbrev AVc (u : ByteArray) (a : Int) (r : Int) : Prop := ∀ wx : World, Calls Tryz.prog 22 #[.string u, .int .i64 a] wx fun e w' => e = .returned (.int .i64 r) ∧ Below wx.heap.size wx w'
/-- The ways in which a tag ends. -/
def FinWay (u : ByteArray) (a : Nat) : Prop :=
  (a < u.size ∧ (bt u a == 47) = true ∧ a + 1 < u.size ∧ (bt u (a + 1) == 62) = true ∧ Hid (finE u a = some (a + 1 + 1))) ∨
  (a < u.size ∧ (bt u a == 47) = true ∧ a + 1 < u.size ∧ (bt u (a + 1) == 62) = false ∧ Hid (finE u a = none)) ∨
  (a < u.size ∧ (bt u a == 47) = true ∧ ¬ ((a : Int) + 1 < (u.size : Int)) ∧ Hid (finE u a = none)) ∨
  (a < u.size ∧ (bt u a == 47) = false ∧ (bt u a == 62) = true ∧ Hid (finE u a = some (a + 1))) ∨
  (a < u.size ∧ (bt u a == 47) = false ∧ (bt u a == 62) = false ∧ Hid (finE u a = none)) ∨
  (¬ ((a : Int) < (u.size : Int)) ∧ Hid (finE u a = none))
theorem fin_way (u : ByteArray) (a : Nat) : FinWay u a := by
  unfold FinWay
  by_cases h1 : a < u.size
  · by_cases h2 : bt u a = 47
    · have hf : finS u a = a + 1 := by unfold finS; rw [if_pos ⟨h1, h2⟩]
      by_cases h3 : a + 1 < u.size
      · by_cases h4 : bt u (a + 1) = 62
        · exact .inl ⟨h1, by simp [h2], h3, by simp [h4], by unfold Hid finE; rw [hf, if_pos ⟨h3, h4⟩]⟩
        · exact .inr (.inl ⟨h1, by simp [h2], h3, by simp [h4], by unfold Hid finE; rw [hf, if_neg (fun x => h4 x.2)]⟩)
      · exact .inr (.inr (.inl ⟨h1, by simp [h2], by omega, by unfold Hid finE; rw [hf, if_neg (fun x => h3 x.1)]⟩))
    · have hf : finS u a = a := by unfold finS; rw [if_neg (fun x => h2 x.2)]
      by_cases h4 : bt u a = 62
      · exact .inr (.inr (.inr (.inl ⟨h1, by simp [h2], by simp [h4], by unfold Hid finE; rw [hf, if_pos ⟨h1, h4⟩]⟩)))
      · exact .inr (.inr (.inr (.inr (.inl ⟨h1, by simp [h2], by simp [h4], by unfold Hid finE; rw [hf, if_neg (fun x => h4 x.2)]⟩))))
  · exact .inr (.inr (.inr (.inr (.inr ⟨by omega, fin_none (fun x => absurd x h1)⟩))))
set_option maxHeartbeats 4000000 in
set_option maxRecDepth 100000 in
theorem openTag_any (u : ByteArray) (w : World) (hs : u.size ≤ 1000) (hL : LinedT u) : Calls Tryz.prog 11 #[.string u] w fun e w' => e = .returned (.int .i64 (otN u : Nat)) ∧ Below w.heap.size w w' := by
  have hb := get_bt u
  have HL := hide hL
  clear hL
  by_cases h0 : 0 < u.size
  case neg =>
    have hz : u.size = 0 := by omega
    have hN : Hid (otN u = 0) := by unfold Hid otN; rw [bt_end u (by omega), if_neg (by decide)]
    have c0 : ((u.size : Int) == 0) = true := by rw [hz]; rfl
    clear h0 hz
    go_enter Tryz.func11, Tryz.ntmps11
    go_wp2
    go_ret
    exact ⟨ret_int (by rw [hN.out]; rfl), Below.refl _ _⟩
  have c0 : ((u.size : Int) == 0) = false := by rw [beq_eq_false_iff_ne]; omega
  by_cases h60 : bt u 0 = 60
  case neg =>
    have hN : Hid (otN u = 0) := by unfold Hid otN; rw [if_neg h60]
    have c1 : (bt u 0 != 60) = true := by simp [h60]
    clear h60
    go_enter Tryz.func11, Tryz.ntmps11
    go_wp2
    go_ret
    exact ⟨ret_int (by rw [hN.out]; rfl), Below.refl _ _⟩
  have c1 : (bt u 0 != 60) = false := by simp [h60]
  have TN := fun wx => tagName_any u 1 wx hs (by omega)
  cases hT : tnE u 1 with
  | none =>
    have hN : Hid (otN u = 0) := by unfold Hid otN; rw [if_pos h60, hT]; rfl
    rw [hT] at TN
    have TN := hide TN
    clear h60 hT
    go_enter Tryz.func11, Tryz.ntmps11
    go_wp2_with (go_at_call 19; refine (TN.out _).mono ?_; rintro e w' ⟨rfl, rfl⟩)
    go_ret
    exact ⟨ret_int (by rw [hN.out]; rfl), Below.refl _ _⟩
  | some j0 =>
    have hN : Hid (otN u = (otE u j0).getD 0) := by unfold Hid otN; rw [if_pos h60, hT]; rfl
    have hj0 := (tn_le hT).2
    rw [hT] at TN
    have TN : Hid (∀ wx : World, Calls Tryz.prog 19 #[.string u, .int .i64 1] wx fun e w' => e = .returned (.int .i64 (j0 : Nat)) ∧ wx = w') := TN
    clear h60 hT
    go_enter Tryz.func11, Tryz.ntmps11
    go_wp2_with (go_at_call 19; refine (TN.out _).mono ?_; rintro e w' ⟨rfl, rfl⟩)
    go_loopw [3] (fun av wr => ∃ k : Nat, k ≤ u.size ∧ av = .int .i64 k ∧ Hid (atS u k = atS u j0) ∧ Below w.heap.size w wr) (fun av _ => u.size - (intOf av).toNat)
    case atStart => exact ⟨j0, hj0, rfl, rfl, Below.refl _ _⟩
    case round =>
      obtain ⟨k, hk, rfl, hA, hBe⟩ := hrel
      obtain ⟨a, ha⟩ : ∃ a, a = scan blB u k := ⟨_, rfl⟩
      have hka : k ≤ a := by rw [ha]; exact scan_ge _ _ hk
      have hau : a ≤ u.size := by rw [ha]; exact scan_le _ _ hk
      have PB1 : Hid (PBc u k a) := fun wx => by rw [ha]; exact pastBlank_any u k wx hs hk HL.out
      have AN0 : Hid (ANc u a (idxI (anE u a))) := fun wx => attrName_any u a wx hs hau
      by_cases p : nmAt u k
      · obtain ⟨g0, g1, g2⟩ := nmE_gt hk p
        obtain ⟨m, hm⟩ : ∃ m, m = nmE u k := ⟨_, rfl⟩
        have hAN : anE u a = some m := by
          have p3 := p.2.2
          have p2 := p.2.1
          rw [← ha] at p2 p3
          unfold anE
          rw [if_pos ⟨p2, p3⟩, hm, ha]; rfl
        rw [hAN] at AN0
        have AN : Hid (ANc u a (m : Nat)) := AN0
        have hne : ((a : Int) == (k : Int)) = false := by have := p.1; rw [← ha] at this; simp; omega
        rw [← hm] at g1 g2
        obtain ⟨v, hv⟩ : ∃ v, v = scan blB u m := ⟨_, rfl⟩
        have hmv : m ≤ v := by rw [hv]; exact scan_ge _ _ g2
        have hvu : v ≤ u.size := by rw [hv]; exact scan_le _ _ g2
        have PB2 : Hid (PBc u m v) := fun wx => by rw [hv]; exact pastBlank_any u m wx hs g2 HL.out
        have nxt : ¬ eqAt u m → Hid (atS u m = atS u j0) := fun q => by unfold Hid; rw [← hA.out, at_plain hk p (by rw [← hm]; exact q), hm]
        by_cases q : v < u.size
        · by_cases q2 : bt u v = 61
          · have qe : eqAt u m := by unfold eqAt; rw [← hv]; exact ⟨q, q2⟩
            have c5 : (bt u v == 61) = true := by simp [q2]
            obtain ⟨x, hx⟩ : ∃ x, x = scan blB u (v + 1) := ⟨_, rfl⟩
            have hxu : x ≤ u.size := by rw [hx]; exact scan_le _ _ (by omega)
            have PB3 : Hid (PBc u ((v : Int) + 1) x) := fun wx => by
              have := pastBlank_any u (v + 1) wx hs (by omega) HL.out
              rw [← hx] at this
              exact this
            have AV0 : Hid (AVc u x (idxI (vlE u m))) := fun wx => by
              have := attrValue_any u x wx hs hxu HL.out
              rw [show avE u x = vlE u m by unfold vlE; rw [← hv, ← hx]] at this
              exact this
            cases hvl : vlE u m with
            | none =>
              rw [hvl] at AV0
              have AV : Hid (AVc u x (-1)) := AV0
              have hR : Hid (otN u = 0) := by unfold Hid; rw [hN.out]; unfold otE; rw [← hA.out, at_bad hk p (by rw [← hm]; exact qe) (by rw [← hm]; exact hvl)]; rfl
              clear q2 qe hvl hx hv hm ha p nxt hAN AN0 AV0 g0 hA
              go_wp2_with (first | (go_at_call 20; with_reducible refine (PB1.out _).mono ?_; rintro e w' ⟨rfl, rfl⟩) | (go_at_call 20; with_reducible refine (PB2.out _).mono ?_; rintro e w' ⟨rfl, rfl⟩) | (go_at_call 20; with_reducible refine (PB3.out _).mono ?_; rintro e w' ⟨rfl, rfl⟩) | (go_at_call 21; with_reducible refine (AN.out _).mono ?_; rintro e w' ⟨rfl, rfl⟩) | (go_at_call 22; with_reducible refine (AV.out _).mono ?_; rintro e w1 ⟨rfl, hb1⟩))
              go_ret
              exact ⟨ret_int (by rw [hR.out]; rfl), hBe.trans (hb1.mono hBe.size)⟩
            | some e2 =>
              obtain ⟨g3, g4⟩ := vlE_gt g2 qe hvl
              rw [hvl] at AV0
              have AV : Hid (AVc u x (e2 : Nat)) := AV0
              have hR : Hid (atS u e2 = atS u j0) := by unfold Hid; rw [← hA.out, at_val hk p (by rw [← hm]; exact qe) (by rw [← hm]; exact hvl)]
              clear q2 qe hvl hx hv hm ha p nxt hAN AN0 AV0 g0 hA
              go_wp2_with (first | (go_at_call 20; with_reducible refine (PB1.out _).mono ?_; rintro e w' ⟨rfl, rfl⟩) | (go_at_call 20; with_reducible refine (PB2.out _).mono ?_; rintro e w' ⟨rfl, rfl⟩) | (go_at_call 20; with_reducible refine (PB3.out _).mono ?_; rintro e w' ⟨rfl, rfl⟩) | (go_at_call 21; with_reducible refine (AN.out _).mono ?_; rintro e w' ⟨rfl, rfl⟩) | (go_at_call 22; with_reducible refine (AV.out _).mono ?_; rintro e w1 ⟨rfl, hb1⟩))
              go_roundw
              case rel => exact ⟨e2, g4, rfl, hR, hBe.trans (hb1.mono hBe.size)⟩
              case measure => simp [intOf]; omega
          · have c5 : (bt u v == 61) = false := by simp [q2]
            have hR := nxt (fun y => q2 (by have := y.2; rw [← hv] at this; exact this))
            clear q2 hv hm ha p nxt hAN AN0 g0 hA
            go_wp2_with (first | (go_at_call 20; with_reducible refine (PB1.out _).mono ?_; rintro e w' ⟨rfl, rfl⟩) | (go_at_call 20; with_reducible refine (PB2.out _).mono ?_; rintro e w' ⟨rfl, rfl⟩) | (go_at_call 21; with_reducible refine (AN.out _).mono ?_; rintro e w' ⟨rfl, rfl⟩))
            go_roundw
            case rel => exact ⟨m, g2, rfl, hR, hBe⟩
            case measure => simp [intOf]; omega
        · have hR := nxt (fun y => q (by have := y.1; rw [← hv] at this; exact this))
          have qI : ¬ ((v : Int) < (u.size : Int)) := by omega
          clear q hv hm ha p nxt hAN AN0 g0 hA
          go_wp2_with (first | (go_at_call 20; with_reducible refine (PB1.out _).mono ?_; rintro e w' ⟨rfl, rfl⟩) | (go_at_call 20; with_reducible refine (PB2.out _).mono ?_; rintro e w' ⟨rfl, rfl⟩) | (go_at_call 21; with_reducible refine (AN.out _).mono ?_; rintro e w' ⟨rfl, rfl⟩))
          go_roundw
          case rel => exact ⟨m, g2, rfl, hR, hBe⟩
          case measure => simp [intOf]; omega
      · have hO : Hid (otN u = (finE u a).getD 0) := by unfold Hid; rw [hN.out]; unfold otE; rw [← hA.out, at_none hk p, ← ha]; rfl
        have hAN : k < a → anE u a = none := fun hlt => by
          unfold anE
          rw [if_neg]
          intro y
          exact p ⟨by rw [← ha]; exact hlt, by rw [← ha]; exact y.1, by rw [← ha]; exact y.2⟩
        obtain ⟨z, hz⟩ : ∃ z, z = idxI (anE u a) := ⟨_, rfl⟩
        rw [← hz] at AN0
        have AN := AN0
        have hW := fin_way u a
        by_cases hak : k < a
        · have hne : ((a : Int) == (k : Int)) = false := by simp; omega
          have hzn : z < 0 := by rw [hz, hAN hak]; decide
          clear ha p hAN hz AN0 hA
          rcases hW with ⟨f1, f2, f3, f4, HF⟩ | ⟨f1, f2, f3, f4, HF⟩ | ⟨f1, f2, f3, HF⟩ | ⟨f1, f2, f3, HF⟩ | ⟨f1, f2, f3, HF⟩ | ⟨f1, HF⟩
          all_goals
            go_wp2_with (first | (go_at_call 20; with_reducible refine (PB1.out _).mono ?_; rintro e w' ⟨rfl, rfl⟩) | (go_at_call 21; with_reducible refine (AN.out _).mono ?_; rintro e w' ⟨rfl, rfl⟩))
            go_ret
            exact ⟨ret_int (by rw [hO.out, HF.out]; simp only [Option.getD_some, Option.getD_none]; omega), hBe⟩
        · have hne : ((a : Int) == (k : Int)) = true := by simp; omega
          clear ha p hAN hz AN0 hA
          rcases hW with ⟨f1, f2, f3, f4, HF⟩ | ⟨f1, f2, f3, f4, HF⟩ | ⟨f1, f2, f3, HF⟩ | ⟨f1, f2, f3, HF⟩ | ⟨f1, f2, f3, HF⟩ | ⟨f1, HF⟩
          all_goals
            go_wp2_with (first | (go_at_call 20; with_reducible refine (PB1.out _).mono ?_; rintro e w' ⟨rfl, rfl⟩) | (go_at_call 21; with_reducible refine (AN.out _).mono ?_; rintro e w' ⟨rfl, rfl⟩))
            go_ret
            exact ⟨ret_int (by rw [hO.out, HF.out]; simp only [Option.getD_some, Option.getD_none]; omega), hBe⟩
end Go.Proofs.YtfmclgmcadiikaaGreat
