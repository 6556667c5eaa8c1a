/- Proves Rows.FnDestCardSaid: for every text and every place FnDest returns true and the arguments read as before, the table of entities as the program's text lays it (the card's tie); no other condition. -/
import Derived.Test.YteondohagdfgeaaDoorDestM
namespace Go.Proofs.YteondohagdfgeaaDoor
open Go.RowKit
theorem implDest_any (s : ByteArray) (i : Nat) (w : World) (v : Value) (D : ByteArray) (n : Int) (b : Bool) (hv : v = .tuple #[.string D, .int .i64 n, .bool b])
    (C : Calls Tryd.prog 30 #[.string s, .int .i64 i] w fun e w' => e = .returned v ∧ Below w.heap.size w w') :
    Calls Tryd.prog 15 #[.string s, .int .i64 i] w fun e w' => e = .returned (.tuple #[.string D, .int .i64 n, .bool b]) ∧ Below w.heap.size w w' := by
  subst hv
  have CH := hide C
  clear C
  go_enter Tryd.func15, Tryd.ntmps15
  go_wp2_with (first | (go_at_call 30; refine CH.out.mono ?_; rintro e w1 ⟨rfl, hb1⟩) | go_in)
  go_ret3
  exact ⟨rfl, hb1⟩
def nlN (u : ByteArray) : Nat := untilN u ⟨#[]⟩ ⟨#[92, 10]⟩
theorem hit_nl {s : ByteArray} {k : Nat} (hk : k + 1 < s.size) (h0 : bt s k = 92) (h1 : bt s (k + 1) = 10) : hitB s ⟨#[92, 10]⟩ k = true := by
  have hz : (⟨#[92, 10]⟩ : ByteArray).size = 2 := rfl
  rw [hit_in (by rw [hz]; omega), hz]
  have : s.extract k (k + 2) = ⟨#[92, 10]⟩ := by
    refine ext_bt (by rw [ByteArray.size_extract, hz]; omega) fun q hq => ?_
    rw [ByteArray.size_extract] at hq
    rw [bt_extract s k (k + 2) q (by omega) (by omega)]
    by_cases e : q = 0
    · subst e; rw [Nat.add_zero, h0]; decide
    · obtain rfl : q = 1 := by omega
      rw [h1]; decide
  rw [this]; simp
theorem noNl_of {s : ByteArray} (h : nlN s = 0) : ∀ k, k + 1 < s.size → bt s k = 92 → bt s (k + 1) ≠ 10 := by
  intro k hk h0 h1
  unfold nlN untilN at h
  rw [if_pos (hit_nil s)] at h
  rcases fst_is s ⟨#[92, 10]⟩ (⟨#[]⟩ : ByteArray).size with ⟨j, g1, _⟩ | ⟨_, g2⟩
  · rw [g1] at h
    have : j + 2 = 0 := h
    omega
  · have := g2 (by show 0 < 2; omega) k (Nat.zero_le _)
    rw [hit_nl hk h0 h1] at this; cases this
theorem until_nl (s : ByteArray) (w : World) (hs : s.size ≤ 1000) : Calls Tryd.prog 7 #[.string s, .string ⟨#[]⟩, .string ⟨#[92, 10]⟩] w fun e w' => e = .returned (.int .i64 (nlN s : Nat)) ∧ w = w' := by
  have C := hide (until_any s ⟨#[]⟩ ⟨#[92, 10]⟩ w (by omega) (by decide) (by decide))
  go_enter Tryd.func7, Tryd.ntmps7
  go_wp2_with (go_at_call 20; refine C.out.mono ?_; rintro e w' ⟨rfl, rfl⟩)
  go_ret
  exact ⟨rfl, rfl⟩
/-- Of a text from a place on: what the package and the reference read is the same. -/
def SameDest (s : ByteArray) (i : Nat) : Prop :=
  ((∀ wx : World, EntIs wx → Calls Tryd.prog 15 #[.string s, .int .i64 i] wx fun e w' => e = .returned (.tuple #[.string ⟨#[]⟩, .int .i64 0, .bool false]) ∧ Below wx.heap.size wx w') ∧
    ∀ wx : World, Calls Tryd.prog 16 #[.string (s.extract i s.size)] wx fun e w' => e = .returned (.tuple #[.string ⟨#[]⟩, .int .i64 (-1)]) ∧ wx = w') ∨
  ∃ (D : ByteArray) (n : Nat), n ≤ 2000 ∧ (∀ wx : World, EntIs wx → Calls Tryd.prog 15 #[.string s, .int .i64 i] wx fun e w' => e = .returned (.tuple #[.string D, .int .i64 ((i : Int) + (n : Int)), .bool true]) ∧ Below wx.heap.size wx w') ∧
    ∀ wx : World, Calls Tryd.prog 16 #[.string (s.extract i s.size)] wx fun e w' => e = .returned (.tuple #[.string D, .int .i64 (n : Int)]) ∧ wx = w'
theorem linedT_piece {s : ByteArray} {a b : Nat} (hb : b ≤ s.size) (h : LinedT s) : LinedT (s.extract a b) := by
  intro k hk
  rw [ByteArray.size_extract] at hk
  rw [bt_extract s a b k (by omega) hb]
  exact h (a + k) (by omega)
theorem pdV_some (u : ByteArray) (i a m c : Nat) : pdV u i a (some m) c = .tuple #[.string (unR (u.extract a m) 0), .int .i64 ((i : Int) + ((m + c : Nat) : Int)), .bool true] := by
  show Value.tuple #[_, .int .i64 ((i + m + c : Nat) : Int), _] = _
  rw [show ((i + m + c : Nat) : Int) = (i : Int) + ((m + c : Nat) : Int) by omega]
theorem same_ang {s : ByteArray} {i : Nat} (hs : s.size ≤ 1000) (hi : i < s.size) (h60 : bt s i = 60) (hO : NoOther s) (hN : NoNum s) (hL : LinedT s) (hnl : nlN (s.extract i s.size) = 0) : SameDest s i := by
  have hz := tail_size (s := s) (i := i)
  have h0 : bt (s.extract i s.size) 0 = 60 := by
    have := tail_bt (s := s) (Nat.le_refl i) hi
    rw [Nat.sub_self] at this
    rw [this, h60]
  have hLu := linedT_piece (a := i) (Nat.le_refl _) hL
  have hn2 : ∀ k, k + 1 < (s.extract i s.size).size → bt (s.extract i s.size) k = 92 → bt (s.extract i s.size) (k + 1) ≠ 10 ∧ bt (s.extract i s.size) (k + 1) ≠ 13 := fun k hk h =>
    ⟨noNl_of hnl k hk h, by have := hLu (k + 1) hk; omega⟩
  have P := fun wx hE => parseDest_ang s i wx hs hi h60 hE hO hL hn2
  have R := fun wx => readDest_ang (s.extract i s.size) wx (by omega) h0 (noNum_piece (Nat.le_refl _) hN)
  cases hA : angD (s.extract i s.size) 1 with
  | none =>
    rw [hA] at P R
    exact .inl ⟨fun wx hE => implDest_any s i wx _ _ _ _ rfl (P wx hE), R⟩
  | some m =>
    rw [hA] at P R
    have hm := ang_le _ 1 m (Nat.le_refl _) hA
    exact .inr ⟨unR ((s.extract i s.size).extract 1 m) 0, m + 1, by omega, fun wx hE => implDest_any s i wx _ _ _ _ (pdV_some _ i 1 m 1) (P wx hE), R⟩
theorem same_run {s : ByteArray} {i : Nat} (hs : s.size ≤ 1000) (hi : i < s.size) (h60 : bt s i ≠ 60) (h41 : bt s i ≠ 41) (hbk : blkB (bt s i) = false) (hO : NoOther s) (hN : NoNum s) (hL : LinedT s) (hc : cntP s s.size ≤ 32) (hl : (runD (s.extract i s.size) 0 0).isNone = false) : SameDest s i := by
  have hz := tail_size (s := s) (i := i)
  have h0 : bt (s.extract i s.size) 0 = bt s i := by
    have := tail_bt (s := s) (Nat.le_refl i) hi
    rw [Nat.sub_self] at this
    exact this
  have hLu := linedT_piece (a := i) (Nat.le_refl _) hL
  cases hA : runD (s.extract i s.size) 0 0 with
  | none => rw [hA] at hl; cases hl
  | some m =>
    have hp := run_pos (by omega) (by rw [h0]; exact hbk) (by rw [h0]; exact h41) hA
    have hm := run_le _ 0 0 m (Nat.le_refl _) (Nat.zero_le _) hA
    have P := fun wx hE => parseDest_run s i m wx hs hi h60 hE hO hL hc hA
    have R := fun wx => readDest_run (s.extract i s.size) m wx (by omega) (by rw [h0]; exact h60) (noNum_piece (Nat.le_refl _) hN) hLu hA hp
    exact .inr ⟨unR ((s.extract i s.size).extract 0 m) 0, m, by omega, fun wx hE => implDest_any s i wx _ _ _ _ (pdV_some _ i 0 m 0) (P wx hE), R⟩
set_option maxHeartbeats 4000000 in
set_option maxRecDepth 100000 in
theorem dest_walk (a0 : ByteArray) (a1 : Int) (w0 : a0.size ≤ maxLen) (w : World) (hE : EntIs w) :
    Calls Tryd.prog 4 #[.string a0, .int .i64 a1] w fun e w' => e = .returned (.bool true) ∧ Below w.heap.size w w' := by
  have W0 := hide w0
  have HE := hide hE
  have hb := get_bt a0
  clear hE
  unfold maxLen at w0
  by_cases h1 : 2147483647 < (a0.size : Int)
  · go_enter Tryd.func4, Tryd.ntmps4
    go_wp2
    go_ret
    exact ⟨rfl, Below.refl _ _⟩
  by_cases g0 : insideB a0 a1 200 = true
  case neg =>
    have g0 : insideB a0 a1 200 = false := by simpa using g0
    go_enter Tryd.func4, Tryd.ntmps4
    go_wp2_with (go_at_call 10; refine (inside_any _ _ _ _ W0.out).mono ?_; rintro e w' ⟨rfl, rfl⟩)
    go_ret
    exact ⟨rfl, Below.refl _ _⟩
  obtain ⟨p1, p2, p3, p4⟩ := inside_parts g0
  obtain ⟨i, rfl⟩ := Int.eq_ofNat_of_zero_le p1
  have HL : Hid (LinedT a0) := p4
  clear p4 p1
  by_cases hi : i < a0.size
  case neg =>
    have ci : ((i : Int) == (a0.size : Int)) = true := by simp; omega
    go_enter Tryd.func4, Tryd.ntmps4
    go_wp2_with (go_at_call 10; refine (inside_any _ _ _ _ W0.out).mono ?_; rintro e w' ⟨rfl, rfl⟩)
    go_ret
    exact ⟨rfl, Below.refl _ _⟩
  have ci : ((i : Int) == (a0.size : Int)) = false := by simp; omega
  have hs : a0.size ≤ 1000 := by omega
  have O := hide (otherName_any a0 w hs)
  by_cases hn : numN a0 = 0
  case neg =>
    have NU : Hid (∀ wx : World, Calls Tryd.prog 11 #[.string a0] wx fun e w' => e = .returned (.bool true) ∧ wx = w') := fun wx => (numbered_any a0 wx hs).mono fun e w' h => by rw [decide_eq_true (by omega)] at h; exact h
    go_enter Tryd.func4, Tryd.ntmps4
    go_wp2_with (first | (go_at_call 10; refine (inside_any _ _ _ _ W0.out).mono ?_; rintro e w' ⟨rfl, rfl⟩) | (go_at_call 6; refine O.out.mono ?_; rintro e w' ⟨(rfl | ⟨rfl, hN⟩), rfl⟩) | (go_at_call 11; refine (NU.out _).mono ?_; rintro e w' ⟨rfl, rfl⟩))
    all_goals
      go_wp2_with (first | (go_at_call 10; refine (inside_any _ _ _ _ W0.out).mono ?_; rintro e w' ⟨rfl, rfl⟩) | (go_at_call 6; refine O.out.mono ?_; rintro e w' ⟨(rfl | ⟨rfl, hN⟩), rfl⟩) | (go_at_call 11; refine (NU.out _).mono ?_; rintro e w' ⟨rfl, rfl⟩))
      go_ret
      exact ⟨rfl, Below.refl _ _⟩
  have NU : Hid (∀ wx : World, Calls Tryd.prog 11 #[.string a0] wx fun e w' => e = .returned (.bool false) ∧ wx = w') := fun wx => (numbered_any a0 wx hs).mono fun e w' h => by rw [decide_eq_false (by omega)] at h; exact h
  have NN := hide (noNum_of hn)
  clear hn
  by_cases hc : cntP a0 a0.size ≤ 32
  case neg =>
    have CR : Hid (∀ wx : World, Calls Tryd.prog 12 #[.string a0] wx fun e w' => e = .returned (.bool true) ∧ wx = w') := fun wx => (crowded_any a0 wx hs).mono fun e w' h => by rw [decide_eq_true (by omega)] at h; exact h
    clear hc
    go_enter Tryd.func4, Tryd.ntmps4
    go_wp2_with (first | (go_at_call 10; refine (inside_any _ _ _ _ W0.out).mono ?_; rintro e w' ⟨rfl, rfl⟩) | (go_at_call 6; refine O.out.mono ?_; rintro e w' ⟨(rfl | ⟨rfl, hN⟩), rfl⟩) | (go_at_call 11; refine (NU.out _).mono ?_; rintro e w' ⟨rfl, rfl⟩) | (go_at_call 12; refine (CR.out _).mono ?_; rintro e w' ⟨rfl, rfl⟩))
    all_goals
      go_wp2_with (first | (go_at_call 10; refine (inside_any _ _ _ _ W0.out).mono ?_; rintro e w' ⟨rfl, rfl⟩) | (go_at_call 6; refine O.out.mono ?_; rintro e w' ⟨(rfl | ⟨rfl, hN⟩), rfl⟩) | (go_at_call 11; refine (NU.out _).mono ?_; rintro e w' ⟨rfl, rfl⟩) | (go_at_call 12; refine (CR.out _).mono ?_; rintro e w' ⟨rfl, rfl⟩))
      go_ret
      exact ⟨rfl, Below.refl _ _⟩
  have CR : Hid (∀ wx : World, Calls Tryd.prog 12 #[.string a0] wx fun e w' => e = .returned (.bool false) ∧ wx = w') := fun wx => (crowded_any a0 wx hs).mono fun e w' h => by rw [decide_eq_false (by omega)] at h; exact h
  have HC := hide hc
  clear hc
  by_cases hbk : blkB (bt a0 i) = true
  case pos =>
    go_enter Tryd.func4, Tryd.ntmps4
    go_wp2_with (first | (go_at_call 10; refine (inside_any _ _ _ _ W0.out).mono ?_; rintro e w' ⟨rfl, rfl⟩) | (go_at_call 6; refine O.out.mono ?_; rintro e w' ⟨(rfl | ⟨rfl, hN⟩), rfl⟩) | (go_at_call 11; refine (NU.out _).mono ?_; rintro e w' ⟨rfl, rfl⟩) | (go_at_call 12; refine (CR.out _).mono ?_; rintro e w' ⟨rfl, rfl⟩) | (go_at_call 13; refine (isBlank_any _ _).mono ?_; rintro e w' ⟨rfl, rfl⟩))
    all_goals
      go_wp2_with (first | (go_at_call 10; refine (inside_any _ _ _ _ W0.out).mono ?_; rintro e w' ⟨rfl, rfl⟩) | (go_at_call 6; refine O.out.mono ?_; rintro e w' ⟨(rfl | ⟨rfl, hN⟩), rfl⟩) | (go_at_call 11; refine (NU.out _).mono ?_; rintro e w' ⟨rfl, rfl⟩) | (go_at_call 12; refine (CR.out _).mono ?_; rintro e w' ⟨rfl, rfl⟩) | (go_at_call 13; refine (isBlank_any _ _).mono ?_; rintro e w' ⟨rfl, rfl⟩))
      go_ret
      exact ⟨rfl, Below.refl _ _⟩
  have hbk : blkB (bt a0 i) = false := by simpa using hbk
  have HB := hide hbk
  by_cases h41 : bt a0 i = 41
  case pos =>
    have c41 : (bt a0 i == 41) = true := by simp [h41]
    clear h41 HB
    go_enter Tryd.func4, Tryd.ntmps4
    go_wp2_with (first | (go_at_call 10; refine (inside_any _ _ _ _ W0.out).mono ?_; rintro e w' ⟨rfl, rfl⟩) | (go_at_call 6; refine O.out.mono ?_; rintro e w' ⟨(rfl | ⟨rfl, hN⟩), rfl⟩) | (go_at_call 11; refine (NU.out _).mono ?_; rintro e w' ⟨rfl, rfl⟩) | (go_at_call 12; refine (CR.out _).mono ?_; rintro e w' ⟨rfl, rfl⟩) | (go_at_call 13; refine (isBlank_any _ _).mono ?_; rintro e w' ⟨rfl, rfl⟩))
    all_goals
      go_wp2_with (first | (go_at_call 10; refine (inside_any _ _ _ _ W0.out).mono ?_; rintro e w' ⟨rfl, rfl⟩) | (go_at_call 6; refine O.out.mono ?_; rintro e w' ⟨(rfl | ⟨rfl, hN⟩), rfl⟩) | (go_at_call 11; refine (NU.out _).mono ?_; rintro e w' ⟨rfl, rfl⟩) | (go_at_call 12; refine (CR.out _).mono ?_; rintro e w' ⟨rfl, rfl⟩) | (go_at_call 13; refine (isBlank_any _ _).mono ?_; rintro e w' ⟨rfl, rfl⟩))
      go_ret
      exact ⟨rfl, Below.refl _ _⟩
  have H41 := hide h41
  have c41 : (bt a0 i == 41) = false := by simp [h41]
  clear h41
  have hz : Hid ((a0.extract i a0.size).size = a0.size - i) := tail_size
  by_cases h60 : bt a0 i = 60
  · have c60 : (bt a0 i == 60) = true := by simp [h60]
    have c60' : (bt a0 i != 60) = false := by simp [h60]
    have H60 := hide h60
    clear h60
    have UN := hide (fun wx => until_nl (a0.extract i a0.size) wx (by rw [hz.out]; omega))
    by_cases hnl : nlN (a0.extract i a0.size) = 0
    case neg =>
      have hnI : (0 : Int) < (nlN (a0.extract i a0.size) : Int) := by omega
      clear hnl
      go_enter Tryd.func4, Tryd.ntmps4
      go_wp2_with (first | (go_at_call 10; refine (inside_any _ _ _ _ W0.out).mono ?_; rintro e w' ⟨rfl, rfl⟩) | (go_at_call 6; refine O.out.mono ?_; rintro e w' ⟨(rfl | ⟨rfl, hN⟩), rfl⟩) | (go_at_call 11; refine (NU.out _).mono ?_; rintro e w' ⟨rfl, rfl⟩) | (go_at_call 12; refine (CR.out _).mono ?_; rintro e w' ⟨rfl, rfl⟩) | (go_at_call 13; refine (isBlank_any _ _).mono ?_; rintro e w' ⟨rfl, rfl⟩) | (go_at_call 7; refine (UN.out _).mono ?_; rintro e w' ⟨rfl, rfl⟩))
      all_goals
        go_wp2_with (first | (go_at_call 10; refine (inside_any _ _ _ _ W0.out).mono ?_; rintro e w' ⟨rfl, rfl⟩) | (go_at_call 6; refine O.out.mono ?_; rintro e w' ⟨(rfl | ⟨rfl, hN⟩), rfl⟩) | (go_at_call 11; refine (NU.out _).mono ?_; rintro e w' ⟨rfl, rfl⟩) | (go_at_call 12; refine (CR.out _).mono ?_; rintro e w' ⟨rfl, rfl⟩) | (go_at_call 13; refine (isBlank_any _ _).mono ?_; rintro e w' ⟨rfl, rfl⟩) | (go_at_call 7; refine (UN.out _).mono ?_; rintro e w' ⟨rfl, rfl⟩))
        go_ret
        exact ⟨rfl, Below.refl _ _⟩
    have HNL := hide hnl
    rw [hnl] at UN
    clear hnl
    have X : Hid (NoOther a0 → SameDest a0 i) := fun hN => same_ang hs hi H60.out hN NN.out HL.out HNL.out
    go_enter Tryd.func4, Tryd.ntmps4
    go_wp2_with (first | (go_at_call 10; refine (inside_any _ _ _ _ W0.out).mono ?_; rintro e w' ⟨rfl, rfl⟩) | (go_at_call 6; refine O.out.mono ?_; rintro e w' ⟨(rfl | ⟨rfl, hN⟩), rfl⟩))
    · go_wp2
      go_ret
      exact ⟨rfl, Below.refl _ _⟩
    · have X := X.out hN
      clear hN
      rcases X with ⟨P, R⟩ | ⟨D, n, hn2, P, R⟩
      all_goals
        have P := hide P
        have R := hide R
        go_wp2_with (first | (go_at_call 11; refine (NU.out _).mono ?_; rintro e w' ⟨rfl, rfl⟩) | (go_at_call 12; refine (CR.out _).mono ?_; rintro e w' ⟨rfl, rfl⟩) | (go_at_call 13; refine (isBlank_any _ _).mono ?_; rintro e w' ⟨rfl, rfl⟩) | (go_at_call 7; refine (UN.out _).mono ?_; rintro e w' ⟨rfl, rfl⟩) | (go_at_call 15; refine (P.out _ HE.out).mono ?_; rintro e w1 ⟨rfl, hb1⟩) | (go_at_call 16; refine (R.out _).mono ?_; rintro e w' ⟨rfl, rfl⟩))
        go_ret
        exact ⟨ret_bool (by simp), hb1⟩
  · have c60 : (bt a0 i == 60) = false := by simp [h60]
    have c60' : (bt a0 i != 60) = true := by simp [h60]
    have H60 := hide h60
    clear h60
    by_cases hl : (runD (a0.extract i a0.size) 0 0).isNone = true
    case pos =>
      have LO : Hid (∀ wx : World, Calls Tryd.prog 14 #[.string (a0.extract i a0.size)] wx fun e w' => e = .returned (.bool true) ∧ wx = w') := fun wx => (loose_any (a0.extract i a0.size) wx (by rw [hz.out]; omega)).mono fun e w' h => by rw [hl] at h; exact h
      clear hl
      go_enter Tryd.func4, Tryd.ntmps4
      go_wp2_with (first | (go_at_call 10; refine (inside_any _ _ _ _ W0.out).mono ?_; rintro e w' ⟨rfl, rfl⟩) | (go_at_call 6; refine O.out.mono ?_; rintro e w' ⟨(rfl | ⟨rfl, hN⟩), rfl⟩) | (go_at_call 11; refine (NU.out _).mono ?_; rintro e w' ⟨rfl, rfl⟩) | (go_at_call 12; refine (CR.out _).mono ?_; rintro e w' ⟨rfl, rfl⟩) | (go_at_call 13; refine (isBlank_any _ _).mono ?_; rintro e w' ⟨rfl, rfl⟩) | (go_at_call 14; refine (LO.out _).mono ?_; rintro e w' ⟨rfl, rfl⟩))
      all_goals
        go_wp2_with (first | (go_at_call 10; refine (inside_any _ _ _ _ W0.out).mono ?_; rintro e w' ⟨rfl, rfl⟩) | (go_at_call 6; refine O.out.mono ?_; rintro e w' ⟨(rfl | ⟨rfl, hN⟩), rfl⟩) | (go_at_call 11; refine (NU.out _).mono ?_; rintro e w' ⟨rfl, rfl⟩) | (go_at_call 12; refine (CR.out _).mono ?_; rintro e w' ⟨rfl, rfl⟩) | (go_at_call 13; refine (isBlank_any _ _).mono ?_; rintro e w' ⟨rfl, rfl⟩) | (go_at_call 14; refine (LO.out _).mono ?_; rintro e w' ⟨rfl, rfl⟩))
        go_ret
        exact ⟨rfl, Below.refl _ _⟩
    have hl : (runD (a0.extract i a0.size) 0 0).isNone = false := eq_false_of_ne_true hl
    have LO : Hid (∀ wx : World, Calls Tryd.prog 14 #[.string (a0.extract i a0.size)] wx fun e w' => e = .returned (.bool false) ∧ wx = w') := fun wx => (loose_any (a0.extract i a0.size) wx (by rw [hz.out]; omega)).mono fun e w' h => by rw [hl] at h; exact h
    have HR := hide hl
    clear hl
    have X : Hid (NoOther a0 → SameDest a0 i) := fun hN => same_run hs hi H60.out H41.out HB.out hN NN.out HL.out HC.out HR.out
    go_enter Tryd.func4, Tryd.ntmps4
    go_wp2_with (first | (go_at_call 10; refine (inside_any _ _ _ _ W0.out).mono ?_; rintro e w' ⟨rfl, rfl⟩) | (go_at_call 6; refine O.out.mono ?_; rintro e w' ⟨(rfl | ⟨rfl, hN⟩), rfl⟩))
    · go_wp2
      go_ret
      exact ⟨rfl, Below.refl _ _⟩
    · have X := X.out hN
      clear hN
      rcases X with ⟨P, R⟩ | ⟨D, n, hn2, P, R⟩
      all_goals
        have P := hide P
        have R := hide R
        go_wp2_with (first | (go_at_call 11; refine (NU.out _).mono ?_; rintro e w' ⟨rfl, rfl⟩) | (go_at_call 12; refine (CR.out _).mono ?_; rintro e w' ⟨rfl, rfl⟩) | (go_at_call 13; refine (isBlank_any _ _).mono ?_; rintro e w' ⟨rfl, rfl⟩) | (go_at_call 14; refine (LO.out _).mono ?_; rintro e w' ⟨rfl, rfl⟩) | (go_at_call 15; refine (P.out _ HE.out).mono ?_; rintro e w1 ⟨rfl, hb1⟩) | (go_at_call 16; refine (R.out _).mono ?_; rintro e w' ⟨rfl, rfl⟩))
        go_ret
        exact ⟨ret_bool (by simp), hb1⟩
end Go.Proofs.YteondohagdfgeaaDoor
namespace Go.Proofs.YteondohagdfgeaaDoor.fnDest
open Go.ChangeShapes Go.WideShapes Go.ChangeAt Go.RowKit
open Go.ChangeMaps (open_string shut_string)
set_option linter.unusedVariables false
theorem contract (H : Type) (enc : TypeId × Value → H) (W : World) (base : Nat) (args : Array Value) (ds gs : List (DataW H)) (before : List MemPlace)
    (hval : ∀ (j : Nat) t v, Tryd.f4.params[j]? = some t → args[j]? = some v → Value.okWide Tryd.prog W .any base t v)
    (hW : DataW.Whole enc Tryd.prog Tryd.f4.params.toList Rows.fnDestSpec.vars false W args.toList ds gs before) (hL : laidMetH Tryd.prog Rows.fnDestRow.laid W) :
    Calls Tryd.prog 4 args W fun e W' => ∃ v, e = .returned v ∧ Rows.fnDestSpec.post enc Tryd.prog Tryd.f4 false true false false W args v W' := by
  have hW' := hW
  obtain ⟨p, q, hA0, hV, rfl, hfz, hnd⟩ := hW
  have hA : DataW.TrodAll enc Tryd.prog W 0 (fun _ => true) true Tryd.f4.params.toList args.toList ds p := hA0
  rw [Tryd.params4] at hA hval
  obtain ⟨v0, vs0, d0, ds0, p0, q0, hargs, rfl, rfl, h0, r0⟩ := trodAll_cons hA
  obtain ⟨v1, vs1, d1, ds1, p1, q1, rfl, rfl, rfl, h1, r1⟩ := trodAll_cons r0
  obtain ⟨rfl, rfl, rfl⟩ := trodAll_nil r1
  obtain rfl : args = #[v0, v1] := by cases args; simp_all
  obtain ⟨rfl, rfl⟩ := trodVars_none hV
  obtain ⟨a0, rfl, rfl, rfl, w0⟩ := open_string Tryd.underlying9 (hval 0 9 v0 rfl rfl) h0
  obtain ⟨a1, rfl, rfl, rfl, w1⟩ := open_int Tryd.underlying3 (hval 1 3 v1 rfl rfl) h1
  clear hA0
  simp only [List.append_nil] at hW'
  refine (dest_walk a0 a1 w0 W (entIs_of hL)).mono fun e W' ⟨he, hg⟩ => ?_
  subst he
  exact ⟨_, rfl, post_of_below (pa := []) (pv := []) hW' (fun _ _ _ => (trodAll_cons_mk (shut_bool Tryd.underlying4 _) trodAll_mk0)) (fun sp _ => (trodAll_cons_mk (shut_string Tryd.underlying9 w0) (trodAll_cons_mk (shut_int Tryd.underlying3 w1) trodAll_mk0))) (fun _ _ => rfl) rfl
    hg (ok_one (by kernel_rfl) rfl (okWide_bool_mk Tryd.underlying4 _))⟩
theorem laid_met (os : Os) : laidMet Tryd.prog Rows.fnDestRow.laid ((laidWorld os).forCall (fun _ _ => 0) ⟨#[], #[.string ByteArray.empty, .int .i64 0], []⟩).memory :=
  laidMet_of_run' 8 (by kernel_rfl) (by kernel_rfl)
theorem reads (os : Os) {H : Type} (enc : TypeId × Value → H) : ∃ places, DataW.whole enc Tryd.prog ((laidWorld os).forCall (fun _ _ => 0) ⟨#[], #[.string ByteArray.empty, .int .i64 0], []⟩).memory Tryd.f4.params.toList Rows.fnDestSpec.vars false #[Value.string ByteArray.empty, .int .i64 0].toList 8 = some ([.lit (.string []), .lit (.int .i64 0)], [], places) :=
  ⟨[], by kernel_rfl⟩
set_option maxRecDepth 100000 in
theorem lifted (os : Os) (started : os.Started) (H : Type) (enc : TypeId × Value → H) (F : Stop.Interp) :
    ReturnsInHanded {} Tryd.checked os 4 .any ((OpenSpec.ofChange Rows.fnDestSpec).preRow enc Tryd.prog Tryd.f4 Rows.fnDestRow.domain false Rows.fnDestRow.laid) (((OpenSpec.ofChange Rows.fnDestSpec).at F).post enc Tryd.prog Tryd.f4 false true false false) := by
  obtain ⟨places, hx⟩ := reads os enc
  refine returnsInHanded_of_row (C := Tryd.checked) (s := OpenSpec.ofChange Rows.fnDestSpec) own started (by kernel_rfl) Tryd.func4
    (witness_row_at (enc := enc) (C := Tryd.checked) false (laidWorld os) #[.string ByteArray.empty, .int .i64 0] rfl (by kernel_rfl) (by kernel_rfl) (by kernel_rfl)
      (OpenSpec.preRow_of_cond 8 hx (by kernel_rfl) (fun k hk => by cases hk) (by kernel_rfl) (laid_met os))) ?_
  intro W base args ds gs before hval hW _ _ _ hL _ _
  exact contract H enc W base args ds gs before hval hW hL
theorem said : Rows.FnDestSaid :=
  OpenClaim.holds_of_cond 4 Tryd.f4 rfl rfl rfl rfl rfl rfl rfl ⟨rfl, rfl, rfl, rfl, rfl⟩ rfl rfl rfl rfl rfl (by kernel_rfl) Tryd.func4 (by kernel_rfl)
    (of_decide_eq_true (by kernel_rfl)) (by unfold Func.isWrapper; first | (rw [if_pos (by decide +kernel)]; kernel_rfl) | (rw [if_neg (by decide +kernel)]; exact ⟨rfl, rfl⟩))
    (fun os started H enc _ F => by rw [OpenClaim.pre_eq_preRow]; exact lifted os started H enc F)
theorem plain (f : FuncId) (fn : Func) (hf : Tryd.pinned.checked.prog.funcNamed "pub-paratext/laws.FnDest" = some f) (hfn : Tryd.pinned.checked.prog.funcs[f]? = some fn) :
    false = Tryd.pinned.checked.prog.looks [] ∧ ∀ (j : Nat) t, fn.params[j]? = some t → Tryd.pinned.checked.prog.wantsStandIn t = false := by
  obtain rfl : f = 4 := Option.some.inj ((show Tryd.prog.funcNamed "pub-paratext/laws.FnDest" = some 4 by kernel_rfl).symm.trans hf) |>.symm
  obtain rfl : fn = Tryd.f4 := (Option.some.inj (Tryd.func4.symm.trans hfn)).symm
  refine ⟨by kernel_rfl, fun j t ht => ?_⟩
  rw [Tryd.params4] at ht
  have hm : t = 9 ∨ t = 3 := by simpa using Array.mem_of_getElem? ht
  rcases hm with rfl | rfl
  · exact (show Tryd.prog.wantsStandIn 9 = false by kernel_rfl)
  · exact (show Tryd.prog.wantsStandIn 3 = false by kernel_rfl)
/-- The card. -/
theorem card : Rows.FnDestCardSaid :=
  Claim7.holds_tied_plain_at .later [] _ _ _ _ said (fun _ h => by cases h) (by kernel_rfl) (fun _ h => by cases h) fnDest_row_tie rfl ⟨rfl, rfl⟩ (by kernel_rfl) rfl plain (by kernel_rfl)
#print axioms card
end Go.Proofs.YteondohagdfgeaaDoor.fnDest
