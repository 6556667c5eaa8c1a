/- Contracts of the package's parseHTMLComment, parseHTMLCDATA, parseHTMLProcInst, parseHTMLTag, and of the thin package's HTMLTag. Conditions: texts of at most 1000 bytes, in which no comment begins at the place. -/
import Derived.Test.YtfmclgmcadiikaaGreatTagN
namespace Go.Proofs.YtfmclgmcadiikaaGreat
open Go.RowKit
set_option maxRecDepth 100000 in
theorem hasPrefix_any (x h : ByteArray) (w : World) : Calls Tryz.prog 38 #[.string x, .string h] w fun e w' => e = .returned (.bool (hitB x h 0)) ∧ w = w' := by
  by_cases hz : h.size ≤ x.size
  · have e1 := hit_in (u := x) (sub := h) (k := 0) (by omega)
    rw [Nat.zero_add] at e1
    have E1 := hide e1
    clear e1
    have d1 : decide (h.size ≤ x.size) = true := by simp; omega
    go_enter Tryz.func38, Tryz.ntmps38
    go_wp2_with (go_in)
    go_ret
    exact ⟨ret_bool (by rw [E1.out]), rfl⟩
  · have e1 := hit_out (u := x) (sub := h) (k := 0) (by omega)
    have E1 := hide e1
    clear e1
    have d1 : decide (h.size ≤ x.size) = false := by simp; omega
    go_enter Tryz.func38, Tryz.ntmps38
    go_wp2_with (go_in)
    go_ret
    exact ⟨ret_bool (by rw [E1.out]), rfl⟩
/-- A text that begins with a longer one begins with its beginning. -/
theorem hit_shorter {u a b : ByteArray} (hab : a.size ≤ b.size) (h : ∀ k, k < a.size → bt a k = bt b k) (hb : hitB u b 0 = true) : hitB u a 0 = true := by
  have hz : 0 + b.size ≤ u.size := by
    apply Nat.le_of_not_lt; intro x; rw [hit_out x] at hb; cases hb
  have e := (hit_in hz).symm.trans hb
  rw [Nat.zero_add] at e hz
  have e2 : u.extract 0 b.size = b := by
    have h' : (u.extract 0 b.size).toList = b.toList := by simpa using e
    rw [Lib.toList_data, Lib.toList_data] at h'
    exact ByteArray.ext (Array.toList_inj.1 h')
  rw [hit_in (by omega), Nat.zero_add]
  have e3 : u.extract 0 a.size = a := by
    refine ext_bt (by rw [ByteArray.size_extract]; omega) fun k hk => ?_
    rw [ByteArray.size_extract] at hk
    rw [bt_extract u 0 a.size k (by omega) (by omega), h k (by omega)]
    have := bt_extract u 0 b.size k (by omega) hz
    rw [e2] at this
    exact this.symm
  rw [e3]; simp
theorem cm_no1 {u : ByteArray} (h : hitB u cmP 0 = false) : hitB u ⟨#[60, 33, 45, 45, 62]⟩ 0 = false := by
  by_cases g : hitB u ⟨#[60, 33, 45, 45, 62]⟩ 0 = true
  · rw [hit_shorter (a := cmP) (by decide) (by decide) g] at h; cases h
  · simpa using g
theorem cm_no2 {u : ByteArray} (h : hitB u cmP 0 = false) : hitB u ⟨#[60, 33, 45, 45, 45, 62]⟩ 0 = false := by
  by_cases g : hitB u ⟨#[60, 33, 45, 45, 45, 62]⟩ 0 = true
  · rw [hit_shorter (a := cmP) (by decide) (by decide) g] at h; cases h
  · simpa using g
set_option maxHeartbeats 1000000 in
theorem parseComment_no (s : ByteArray) (i g : Nat) (w : World) (hs : s.size ≤ 1000) (hi : i ≤ s.size) (hc : hitB s cmP i = false) :
    Calls Tryz.prog 28 #[.string s, .int .i64 i] w (TagRes s i g none w) := by
  have ht := hit_tail s cmP i 0 hi
  rw [Nat.add_zero, hc] at ht
  have P1 : ∀ wx : World, Calls Tryz.prog 38 #[.string (s.extract i s.size), .string ⟨#[60, 33, 45, 45, 62]⟩] wx fun e w' => e = .returned (.bool false) ∧ wx = w' := fun wx => (hasPrefix_any _ _ wx).mono fun e w' h => by rw [cm_no1 ht] at h; exact h
  have P2 : ∀ wx : World, Calls Tryz.prog 38 #[.string (s.extract i s.size), .string ⟨#[60, 33, 45, 45, 45, 62]⟩] wx fun e w' => e = .returned (.bool false) ∧ wx = w' := fun wx => (hasPrefix_any _ _ wx).mono fun e w' h => by rw [cm_no2 ht] at h; exact h
  have M := hide (fun wx => pMark_no s cmP ⟨#[45, 45, 62]⟩ i wx hs hi (by decide) (by decide) (by decide) (.inl hc))
  have P1 := hide P1
  have P2 := hide P2
  clear hc ht
  go_enter Tryz.func28, Tryz.ntmps28
  go_wp2_with (first | (go_at_call 38; with_reducible refine (P1.out _).mono ?_; rintro e w' ⟨rfl, rfl⟩) | (go_at_call 38; with_reducible refine (P2.out _).mono ?_; rintro e w' ⟨rfl, rfl⟩) | (go_at_call 39; refine (M.out _).mono ?_; rintro e w' ⟨rfl, rfl⟩))
  go_ret3
  exact ⟨rfl, Below.refl _ _⟩
/-- What the reading of raw HTML gives. -/
def tgE (s : ByteArray) (i : Nat) : Option Nat :=
  if i + 3 ≤ s.size then
    (if bt s (i + 1) = 47 then (tnE s (i + 2)).bind (ctE s)
    else if bt s (i + 1) = 33 then (if bt s (i + 2) = 45 then none else if bt s (i + 2) = 91 then mkE s cdP cdS i else dcE s i)
    else if bt s (i + 1) = 63 then mkE s piP piS i
    else (tnE s (i + 1)).bind (otE s))
  else none
theorem parseCDATA_any (s : ByteArray) (i g : Nat) (w : World) (hs : s.size ≤ 1000) (hi : i ≤ s.size) (hg : g ≤ w.heap.size) :
    Calls Tryz.prog 29 #[.string s, .int .i64 i] w (TagRes s i g (mkE s cdP cdS i) w) := by
  cases hm : mkE s cdP cdS i with
  | none =>
    have M : ∀ wx : World, g ≤ wx.heap.size → Calls Tryz.prog 39 #[.string s, .int .i64 i, .string cdP, .string cdS] wx fun e w' => e = .returned (.tuple #[.nilIface, .int .i64 0, .bool false]) ∧ Below g wx w' := fun wx h => (pMark_res s cdP cdS i g wx hs hi (by decide) (by decide) (by decide) (by decide) h).mono fun e w' q => by rw [hm] at q; exact q
    have M := hide M
    clear hm
    go_enter Tryz.func29, Tryz.ntmps29
    go_wp2_with (go_at_call 39; refine (M.out _ hg).mono ?_; rintro e w1 ⟨rfl, hb1⟩)
    go_ret3
    exact ⟨rfl, hb1⟩
  | some E =>
    have M : ∀ wx : World, g ≤ wx.heap.size → Calls Tryz.prog 39 #[.string s, .int .i64 i, .string cdP, .string cdS] wx fun e w' => ∃ h, e = .returned (.tuple #[.iface 74 (.pointer (some ⟨h, 0, none⟩)), .int .i64 (E : Nat), .bool true]) ∧ w'.cell? ⟨h, 0, none⟩ = some (.string (s.extract i E)) ∧ h < w'.heap.size ∧ Below g wx w' := fun wx h => (pMark_res s cdP cdS i g wx hs hi (by decide) (by decide) (by decide) (by decide) h).mono fun e w' q => by rw [hm] at q; exact q
    have M := hide M
    clear hm
    go_enter Tryz.func29, Tryz.ntmps29
    go_wp2_with (go_at_call 39; refine (M.out _ hg).mono ?_; rintro e w1 ⟨h1, rfl, hc1, hl1, hb1⟩)
    go_ret3
    exact ⟨h1, rfl, hc1, hl1, hb1⟩
theorem parsePI_any (s : ByteArray) (i g : Nat) (w : World) (hs : s.size ≤ 1000) (hi : i ≤ s.size) (hg : g ≤ w.heap.size) :
    Calls Tryz.prog 31 #[.string s, .int .i64 i] w (TagRes s i g (mkE s piP piS i) w) := by
  cases hm : mkE s piP piS i with
  | none =>
    have M : ∀ wx : World, g ≤ wx.heap.size → Calls Tryz.prog 39 #[.string s, .int .i64 i, .string piP, .string piS] wx fun e w' => e = .returned (.tuple #[.nilIface, .int .i64 0, .bool false]) ∧ Below g wx w' := fun wx h => (pMark_res s piP piS i g wx hs hi (by decide) (by decide) (by decide) (by decide) h).mono fun e w' q => by rw [hm] at q; exact q
    have M := hide M
    clear hm
    go_enter Tryz.func31, Tryz.ntmps31
    go_wp2_with (go_at_call 39; refine (M.out _ hg).mono ?_; rintro e w1 ⟨rfl, hb1⟩)
    go_ret3
    exact ⟨rfl, hb1⟩
  | some E =>
    have M : ∀ wx : World, g ≤ wx.heap.size → Calls Tryz.prog 39 #[.string s, .int .i64 i, .string piP, .string piS] wx fun e w' => ∃ h, e = .returned (.tuple #[.iface 74 (.pointer (some ⟨h, 0, none⟩)), .int .i64 (E : Nat), .bool true]) ∧ w'.cell? ⟨h, 0, none⟩ = some (.string (s.extract i E)) ∧ h < w'.heap.size ∧ Below g wx w' := fun wx h => (pMark_res s piP piS i g wx hs hi (by decide) (by decide) (by decide) (by decide) h).mono fun e w' q => by rw [hm] at q; exact q
    have M := hide M
    clear hm
    go_enter Tryz.func31, Tryz.ntmps31
    go_wp2_with (go_at_call 39; refine (M.out _ hg).mono ?_; rintro e w1 ⟨h1, rfl, hc1, hl1, hb1⟩)
    go_ret3
    exact ⟨h1, rfl, hc1, hl1, hb1⟩
set_option maxHeartbeats 2000000 in
set_option maxRecDepth 100000 in
theorem parseTag_any (s : ByteArray) (i g : Nat) (w : World) (hs : s.size ≤ 1000) (hi : i < s.size) (h60 : bt s i = 60) (hcm : hitB s cmP i = false) (hC : CorP g w) :
    Calls Tryz.prog 17 #[.pointer (some ⟨g, 0, none⟩), .string s, .int .i64 i] w (TagRes s i g (tgE s i) w) := by
  have hb := get_bt s
  have HC := hide hC
  have c60 : (bt s i == 60) = true := by simp [h60]
  by_cases h3 : i + 3 ≤ s.size
  case neg =>
    have HO : Hid (tgE s i = none) := by unfold Hid tgE; rw [if_neg h3]
    have h3I : (s.size : Int) < (i : Int) + 3 := by omega
    clear h3 hC
    go_enter Tryz.func17, Tryz.ntmps17
    go_wp2
    go_ret3
    exact tag_end HO.out ⟨rfl, Below.refl _ _⟩
  have h3I : (i : Int) + 3 ≤ (s.size : Int) := by omega
  by_cases x47 : bt s (i + 1) = 47
  · have d1 : (bt s (i + 1) == 47) = true := by simp [x47]
    have HO : Hid (tgE s i = (tnE s (i + 2)).bind (ctE s)) := by unfold Hid tgE; rw [if_pos h3, if_pos x47]
    rcases tag_cases (f := 27) (args := #[.pointer (some ⟨g, 0, none⟩), .string s, .int .i64 i]) (s := s) (i := i) (g := g) (o := (tnE s (i + 2)).bind (ctE s)) (fun wx h => parseClosing_any s i g wx hs (by omega) h60 x47 h) with ⟨hm, M⟩ | ⟨E, hm, M⟩
    · have HM := hide (HO.out.trans hm)
      have M := hide M
      clear hm h60 x47
      go_enter Tryz.func17, Tryz.ntmps17
      go_wp2_with (go_at_call 27; refine (M.out _ HC.out).mono ?_; rintro e w1 ⟨rfl, hb1⟩)
      go_ret3
      exact tag_end HM.out ⟨rfl, hb1⟩
    · have HM := hide (HO.out.trans hm)
      have M := hide M
      clear hm h60 x47
      go_enter Tryz.func17, Tryz.ntmps17
      go_wp2_with (go_at_call 27; refine (M.out _ HC.out).mono ?_; rintro e w1 ⟨h1, rfl, hc1, hl1, hb1⟩)
      go_ret3
      exact tag_end HM.out ⟨h1, rfl, hc1, hl1, hb1⟩
  have d1 : (bt s (i + 1) == 47) = false := by simp [x47]
  by_cases x33 : bt s (i + 1) = 33
  · have d2 : (bt s (i + 1) == 33) = true := by simp [x33]
    by_cases y45 : bt s (i + 2) = 45
    · have d3 : (bt s (i + 2) == 45) = true := by simp [y45]
      have HO : Hid (tgE s i = none) := by unfold Hid tgE; rw [if_pos h3, if_neg x47, if_pos x33, if_pos y45]
      rcases tag_cases (f := 28) (args := #[.string s, .int .i64 i]) (s := s) (i := i) (g := g) (o := none) (fun wx h => parseComment_no s i g wx hs (by omega) hcm) with ⟨hm, M⟩ | ⟨E, hm, M⟩
      · have HM := hide (HO.out.trans hm)
        have M := hide M
        clear hm h60 x47 x33 y45
        go_enter Tryz.func17, Tryz.ntmps17
        go_wp2_with (go_at_call 28; refine (M.out _ HC.out).mono ?_; rintro e w1 ⟨rfl, hb1⟩)
        go_ret3
        exact tag_end HM.out ⟨rfl, hb1⟩
      · have HM := hide (HO.out.trans hm)
        have M := hide M
        clear hm h60 x47 x33 y45
        go_enter Tryz.func17, Tryz.ntmps17
        go_wp2_with (go_at_call 28; refine (M.out _ HC.out).mono ?_; rintro e w1 ⟨h1, rfl, hc1, hl1, hb1⟩)
        go_ret3
        exact tag_end HM.out ⟨h1, rfl, hc1, hl1, hb1⟩
    have d3 : (bt s (i + 2) == 45) = false := by simp [y45]
    by_cases y91 : bt s (i + 2) = 91
    · have d4 : (bt s (i + 2) == 91) = true := by simp [y91]
      have HO : Hid (tgE s i = mkE s cdP cdS i) := by unfold Hid tgE; rw [if_pos h3, if_neg x47, if_pos x33, if_neg y45, if_pos y91]
      rcases tag_cases (f := 29) (args := #[.string s, .int .i64 i]) (s := s) (i := i) (g := g) (o := mkE s cdP cdS i) (fun wx h => parseCDATA_any s i g wx hs (by omega) (Nat.le_of_lt h.1)) with ⟨hm, M⟩ | ⟨E, hm, M⟩
      · have HM := hide (HO.out.trans hm)
        have M := hide M
        clear hm h60 x47 x33 y45 y91
        go_enter Tryz.func17, Tryz.ntmps17
        go_wp2_with (go_at_call 29; refine (M.out _ HC.out).mono ?_; rintro e w1 ⟨rfl, hb1⟩)
        go_ret3
        exact tag_end HM.out ⟨rfl, hb1⟩
      · have HM := hide (HO.out.trans hm)
        have M := hide M
        clear hm h60 x47 x33 y45 y91
        go_enter Tryz.func17, Tryz.ntmps17
        go_wp2_with (go_at_call 29; refine (M.out _ HC.out).mono ?_; rintro e w1 ⟨h1, rfl, hc1, hl1, hb1⟩)
        go_ret3
        exact tag_end HM.out ⟨h1, rfl, hc1, hl1, hb1⟩
    have d4 : (bt s (i + 2) == 91) = false := by simp [y91]
    have HO : Hid (tgE s i = dcE s i) := by unfold Hid tgE; rw [if_pos h3, if_neg x47, if_pos x33, if_neg y45, if_neg y91]
    rcases tag_cases (f := 30) (args := #[.pointer (some ⟨g, 0, none⟩), .string s, .int .i64 i]) (s := s) (i := i) (g := g) (o := dcE s i) (fun wx h => parseDecl_any s i g wx hs (by omega) h) with ⟨hm, M⟩ | ⟨E, hm, M⟩
    · have HM := hide (HO.out.trans hm)
      have M := hide M
      clear hm h60 x47 x33 y45 y91
      go_enter Tryz.func17, Tryz.ntmps17
      go_wp2_with (go_at_call 30; refine (M.out _ HC.out).mono ?_; rintro e w1 ⟨rfl, hb1⟩)
      go_ret3
      exact tag_end HM.out ⟨rfl, hb1⟩
    · have HM := hide (HO.out.trans hm)
      have M := hide M
      clear hm h60 x47 x33 y45 y91
      go_enter Tryz.func17, Tryz.ntmps17
      go_wp2_with (go_at_call 30; refine (M.out _ HC.out).mono ?_; rintro e w1 ⟨h1, rfl, hc1, hl1, hb1⟩)
      go_ret3
      exact tag_end HM.out ⟨h1, rfl, hc1, hl1, hb1⟩
  have d2 : (bt s (i + 1) == 33) = false := by simp [x33]
  by_cases x63 : bt s (i + 1) = 63
  · have d5 : (bt s (i + 1) == 63) = true := by simp [x63]
    have HO : Hid (tgE s i = mkE s piP piS i) := by unfold Hid tgE; rw [if_pos h3, if_neg x47, if_neg x33, if_pos x63]
    rcases tag_cases (f := 31) (args := #[.string s, .int .i64 i]) (s := s) (i := i) (g := g) (o := mkE s piP piS i) (fun wx h => parsePI_any s i g wx hs (by omega) (Nat.le_of_lt h.1)) with ⟨hm, M⟩ | ⟨E, hm, M⟩
    · have HM := hide (HO.out.trans hm)
      have M := hide M
      clear hm h60 x47 x33 x63
      go_enter Tryz.func17, Tryz.ntmps17
      go_wp2_with (go_at_call 31; refine (M.out _ HC.out).mono ?_; rintro e w1 ⟨rfl, hb1⟩)
      go_ret3
      exact tag_end HM.out ⟨rfl, hb1⟩
    · have HM := hide (HO.out.trans hm)
      have M := hide M
      clear hm h60 x47 x33 x63
      go_enter Tryz.func17, Tryz.ntmps17
      go_wp2_with (go_at_call 31; refine (M.out _ HC.out).mono ?_; rintro e w1 ⟨h1, rfl, hc1, hl1, hb1⟩)
      go_ret3
      exact tag_end HM.out ⟨h1, rfl, hc1, hl1, hb1⟩
  have d5 : (bt s (i + 1) == 63) = false := by simp [x63]
  have HO : Hid (tgE s i = (tnE s (i + 1)).bind (otE s)) := by unfold Hid tgE; rw [if_pos h3, if_neg x47, if_neg x33, if_neg x63]
  rcases tag_cases (f := 26) (args := #[.pointer (some ⟨g, 0, none⟩), .string s, .int .i64 i]) (s := s) (i := i) (g := g) (o := (tnE s (i + 1)).bind (otE s)) (fun wx h => parseOpen_any s i g wx hs hi h60 h) with ⟨hm, M⟩ | ⟨E, hm, M⟩
  · have HM := hide (HO.out.trans hm)
    have M := hide M
    clear hm h60 x47 x33 x63
    go_enter Tryz.func17, Tryz.ntmps17
    go_wp2_with (go_at_call 26; refine (M.out _ HC.out).mono ?_; rintro e w1 ⟨rfl, hb1⟩)
    go_ret3
    exact tag_end HM.out ⟨rfl, hb1⟩
  · have HM := hide (HO.out.trans hm)
    have M := hide M
    clear hm h60 x47 x33 x63
    go_enter Tryz.func17, Tryz.ntmps17
    go_wp2_with (go_at_call 26; refine (M.out _ HC.out).mono ?_; rintro e w1 ⟨h1, rfl, hc1, hl1, hb1⟩)
    go_ret3
    exact tag_end HM.out ⟨h1, rfl, hc1, hl1, hb1⟩
end Go.Proofs.YtfmclgmcadiikaaGreat
