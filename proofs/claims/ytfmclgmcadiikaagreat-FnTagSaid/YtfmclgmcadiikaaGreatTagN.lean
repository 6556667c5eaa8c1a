/- Contracts of the package's parseHTMLClosingTag, parseHTMLMarker (as a tag), parseHTMLDecl, parseHTMLComment. Conditions: texts of at most 1000 bytes, as each states them. -/
import Derived.Test.YtfmclgmcadiikaaGreatTagM
namespace Go.Proofs.YtfmclgmcadiikaaGreat
open Go.RowKit
set_option maxHeartbeats 4000000 in
set_option maxRecDepth 100000 in
theorem parseClosing_any (s : ByteArray) (i g : Nat) (w : World) (hs : s.size ≤ 1000) (hi : i + 2 < s.size) (h60 : bt s i = 60) (h47 : bt s (i + 1) = 47) (hC : CorP g w) :
    Calls Tryz.prog 27 #[.pointer (some ⟨g, 0, none⟩), .string s, .int .i64 i] w (TagRes s i g ((tnE s (i + 2)).bind (ctE s)) w) := by
  have hb := get_bt s
  obtain ⟨hg, ⟨c, hc⟩, hf⟩ := hC
  have c60 : (bt s i != 60) = false := by simp [h60]
  have c47 : (bt s (i + 1) != 47) = false := by simp [h47]
  have hiI : ¬ ((s.size : Int) ≤ (i : Int) + 2) := by omega
  obtain ⟨b0, hb0⟩ : ∃ b0, b0 = scan blB s (i + 2) := ⟨_, rfl⟩
  have hib : i + 2 ≤ b0 := by rw [hb0]; exact scan_ge _ _ (by omega)
  have SK0 : Hid (∀ wx : World, Calls Tryz.prog 37 #[.string s, .int .i64 ((i : Int) + 2)] wx fun e w' => e = .returned (.int .i64 (b0 : Nat)) ∧ wx = w') := fun wx => by
    have := skipSpace_any s (i + 2) wx (by simp only [maxLen]; omega) (by omega)
    rw [← hb0] at this
    exact this
  clear h60 h47 hb0
  cases hT : tnE s (i + 2) with
  | none =>
    have C : Hid (∀ wx : World, Calls Tryz.prog 35 #[.string s, .int .i64 ((i : Int) + 2)] wx fun e w' => e = .returned (.tuple #[.string ⟨#[]⟩, .int .i64 0, .bool false]) ∧ wx = w') := fun wx => parseTagName_no s (i + 2) wx hs (by omega) hT
    have HO : Hid ((none : Option Nat).bind (ctE s) = none) := rfl
    clear hT
    by_cases hne : i + 2 < b0
    · have hneB : ((b0 : Int) != (i : Int) + 2) = true := by simp; omega
      clear hne
      go_enter Tryz.func27, Tryz.ntmps27
      go_wp2_with (first | (go_at_call 37; with_reducible refine (SK0.out _).mono ?_; rintro e w' ⟨rfl, rfl⟩) | (go_at_call 35; refine (C.out _).mono ?_; rintro e w' ⟨rfl, rfl⟩))
      go_ret3
      exact tag_end HO.out ⟨rfl, (Below.refl _ _).setCell (Nat.le_refl g) _⟩
    · have hneB : ((b0 : Int) != (i : Int) + 2) = false := by simp; omega
      clear hne
      go_enter Tryz.func27, Tryz.ntmps27
      go_wp2_with (first | (go_at_call 37; with_reducible refine (SK0.out _).mono ?_; rintro e w' ⟨rfl, rfl⟩) | (go_at_call 35; refine (C.out _).mono ?_; rintro e w' ⟨rfl, rfl⟩))
      go_ret3
      exact tag_end HO.out ⟨rfl, Below.refl _ _⟩
  | some j =>
    have C : Hid (∀ wx : World, Calls Tryz.prog 35 #[.string s, .int .i64 ((i : Int) + 2)] wx fun e w' => e = .returned (.tuple #[.string (s.extract (i + 2) j), .int .i64 (j : Nat), .bool true]) ∧ wx = w') := fun wx => parseTagName_yes s (i + 2) j wx hs hT
    have hj := (tn_le hT).2
    have hij := (tn_le hT).1
    obtain ⟨a, ha⟩ : ∃ a, a = scan blB s j := ⟨_, rfl⟩
    have hja : j ≤ a := by rw [ha]; exact scan_ge _ _ hj
    have hau : a ≤ s.size := by rw [ha]; exact scan_le _ _ hj
    have SK : Hid (∀ wx : World, Calls Tryz.prog 37 #[.string s, .int .i64 j] wx fun e w' => e = .returned (.int .i64 (a : Nat)) ∧ wx = w') := fun wx => by rw [ha]; exact skipSpace_any s j wx (by simp only [maxLen]; omega) hj
    have hway : (a < s.size ∧ (bt s a == 62) = true ∧ Hid ((some j).bind (ctE s) = some (a + 1))) ∨ (a < s.size ∧ (bt s a == 62) = false ∧ Hid ((some j).bind (ctE s) = none)) ∨ (¬ ((a : Int) < (s.size : Int)) ∧ Hid ((some j).bind (ctE s) = none)) := by
      by_cases h3 : a < s.size
      · by_cases h4 : bt s a = 62
        · exact .inl ⟨h3, by simp [h4], by unfold Hid; show ctE s j = _; unfold ctE; rw [← ha, if_pos ⟨h3, h4⟩]⟩
        · exact .inr (.inl ⟨h3, by simp [h4], by unfold Hid; show ctE s j = _; unfold ctE; rw [← ha, if_neg (fun x => h4 x.2)]⟩)
      · exact .inr (.inr ⟨by omega, by unfold Hid; show ctE s j = _; unfold ctE; rw [← ha, if_neg (fun x => h3 x.1)]⟩)
    clear hT ha
    by_cases hne : i + 2 < b0
    · have hneB : ((b0 : Int) != (i : Int) + 2) = true := by simp; omega
      clear hne
      rcases hway with ⟨f1, f2, HO⟩ | ⟨f1, f2, HO⟩ | ⟨f1, HO⟩
      all_goals
        go_enter Tryz.func27, Tryz.ntmps27
        go_wp2_with (first | (go_at_call 37; with_reducible refine (SK0.out _).mono ?_; rintro e w' ⟨rfl, rfl⟩) | (go_at_call 37; with_reducible refine (SK.out _).mono ?_; rintro e w' ⟨rfl, rfl⟩) | (go_at_call 35; refine (C.out _).mono ?_; rintro e w' ⟨rfl, rfl⟩))
        go_ret3
        refine tag_end HO.out ?_
        first | exact ⟨rfl, (Below.refl _ _).setCell (Nat.le_refl g) _⟩ | exact ⟨_, rfl, by first | rfl | simp | exact (World.cell?_alloc_at _ _ _ _ (by simp)).trans (by rfl), by first | simp | omega, ((Below.refl _ _).setCell (Nat.le_refl g) _).alloc (by first | omega | (simp; omega)) _⟩
    · have hneB : ((b0 : Int) != (i : Int) + 2) = false := by simp; omega
      clear hne
      rcases hway with ⟨f1, f2, HO⟩ | ⟨f1, f2, HO⟩ | ⟨f1, HO⟩
      all_goals
        go_enter Tryz.func27, Tryz.ntmps27
        go_wp2_with (first | (go_at_call 37; with_reducible refine (SK0.out _).mono ?_; rintro e w' ⟨rfl, rfl⟩) | (go_at_call 37; with_reducible refine (SK.out _).mono ?_; rintro e w' ⟨rfl, rfl⟩) | (go_at_call 35; refine (C.out _).mono ?_; rintro e w' ⟨rfl, rfl⟩))
        go_ret3
        refine tag_end HO.out ?_
        first | exact ⟨rfl, Below.refl _ _⟩ | exact ⟨_, rfl, by first | rfl | simp | exact (World.cell?_alloc_at _ _ _ _ (by simp)).trans (by rfl), by first | simp | omega, (Below.refl _ _).alloc (by first | omega | (simp; omega)) _⟩
/-- What a marker gives. -/
def mkE (s pre suf : ByteArray) (i : Nat) : Option Nat := if hitB s pre i = true then (fst_ s suf (i + pre.size)).map (· + suf.size) else none
theorem pMark_res (s pre suf : ByteArray) (i g : Nat) (w : World) (hs : s.size ≤ 1000) (hi : i ≤ s.size) (h1 : 0 < pre.size) (h2 : pre.size ≤ 100) (h3 : 0 < suf.size) (h4 : suf.size ≤ 100) (hg : g ≤ w.heap.size) :
    Calls Tryz.prog 39 #[.string s, .int .i64 i, .string pre, .string suf] w (TagRes s i g (mkE s pre suf i) w) := by
  by_cases hp : hitB s pre i = true
  · cases hk : fst_ s suf (i + pre.size) with
    | none =>
      refine (pMark_no s pre suf i w hs hi h2 h3 h4 (.inr hk)).mono fun e w' h => ?_
      unfold mkE; rw [if_pos hp, hk]
      exact ⟨h.1, by rw [← h.2]; exact Below.refl _ _⟩
    | some k =>
      refine (pMark_yes s pre suf i k w hs hi h1 h2 h3 h4 hp hk).mono fun e w' h => ?_
      unfold mkE; rw [if_pos hp, hk]
      obtain ⟨he, hw⟩ := h
      subst hw
      exact ⟨_, he, by simp, by simp, (Below.refl _ _).alloc hg _⟩
  · have hp : hitB s pre i = false := by simpa using hp
    refine (pMark_no s pre suf i w hs hi h2 h3 h4 (.inl hp)).mono fun e w' h => ?_
    unfold mkE; rw [hp]
    exact ⟨h.1, by rw [← h.2]; exact Below.refl _ _⟩
/-- A tag's reading, its result written out. -/
theorem tag_cases {f : FuncId} {args : Array Value} {s : ByteArray} {i g : Nat} {o : Option Nat} (h : ∀ wx : World, CorP g wx → Calls Tryz.prog f args wx (TagRes s i g o wx)) :
    (o = none ∧ ∀ wx : World, CorP g wx → Calls Tryz.prog f args wx fun e w' => e = .returned (.tuple #[.nilIface, .int .i64 0, .bool false]) ∧ Below g wx w') ∨
    (∃ E, o = some E ∧ ∀ wx : World, CorP g wx → Calls Tryz.prog f args wx fun e w' => ∃ h, e = .returned (.tuple #[.iface 74 (.pointer (some ⟨h, 0, none⟩)), .int .i64 (E : Nat), .bool true]) ∧ w'.cell? ⟨h, 0, none⟩ = some (.string (s.extract i E)) ∧ h < w'.heap.size ∧ Below g wx w') := by
  cases o with
  | none => exact .inl ⟨rfl, fun wx hc => (h wx hc).mono fun e w' q => q⟩
  | some E => exact .inr ⟨E, rfl, fun wx hc => (h wx hc).mono fun e w' q => q⟩
/-- A function that hands on what another one reads. -/
def dcE (s : ByteArray) (i : Nat) : Option Nat := if ltB (bt s (i + 2)) = true then mkE s dcP dcS i else none
set_option maxHeartbeats 1000000 in
theorem parseDecl_any (s : ByteArray) (i g : Nat) (w : World) (hs : s.size ≤ 1000) (hi : i + 2 < s.size) (hC : CorP g w) :
    Calls Tryz.prog 30 #[.pointer (some ⟨g, 0, none⟩), .string s, .int .i64 i] w (TagRes s i g (dcE s i) w) := by
  have hb := get_bt s
  have hiI : (i : Int) + 2 < (s.size : Int) := by omega
  by_cases hl : ltB (bt s (i + 2)) = true
  case neg =>
    have HO : Hid (dcE s i = none) := by unfold Hid dcE; rw [if_neg hl]
    have hl : ltB (bt s (i + 2)) = false := by simpa using hl
    clear hC
    go_enter Tryz.func30, Tryz.ntmps30
    go_wp2_with (go_at_call 41; refine (isLetterM_any _ _).mono ?_; rw [hl]; rintro e w' ⟨rfl, rfl⟩)
    go_ret3
    exact tag_end HO.out ⟨rfl, Below.refl _ _⟩
  have HO : Hid (dcE s i = mkE s dcP dcS i) := by unfold Hid dcE; rw [if_pos hl]
  have HC := hide hC
  obtain ⟨hg, ⟨c, hc⟩, hf⟩ := hC
  have hcase : (97 ≤ bt s (i + 2) ∧ bt s (i + 2) ≤ 122) ∨ bt s (i + 2) < 97 := by
    simp [ltB] at hl; omega
  have M := tag_cases (fun wx (h : CorP g wx) => pMark_res s dcP dcS i g wx hs (by omega) (by decide) (by decide) (by decide) (by decide) (Nat.le_of_lt h.1))
  rcases M with ⟨hm, M⟩ | ⟨E, hm, M⟩
  · have HM := hide (HO.out.trans hm)
    have MH := hide M
    clear hm M
    rcases hcase with ⟨x1, x2⟩ | x1
    · have hC2 := hide (HC.out.set true)
      go_enter Tryz.func30, Tryz.ntmps30
      go_wp2_with (first | (go_at_call 41; refine (isLetterM_any _ _).mono ?_; rw [hl]; rintro e w' ⟨rfl, rfl⟩) | (go_at_call 39; refine (MH.out _ hC2.out).mono ?_; rintro e w1 ⟨rfl, hb1⟩))
      go_ret3
      exact tag_end HM.out ⟨rfl, ((Below.refl _ _).setCell (Nat.le_refl g) _).trans hb1⟩
    · go_enter Tryz.func30, Tryz.ntmps30
      go_wp2_with (first | (go_at_call 41; refine (isLetterM_any _ _).mono ?_; rw [hl]; rintro e w' ⟨rfl, rfl⟩) | (go_at_call 39; refine (MH.out _ HC.out).mono ?_; rintro e w1 ⟨rfl, hb1⟩))
      go_ret3
      exact tag_end HM.out ⟨rfl, hb1⟩
  · have HM := hide (HO.out.trans hm)
    have MH := hide M
    clear hm M
    rcases hcase with ⟨x1, x2⟩ | x1
    · have hC2 := hide (HC.out.set true)
      go_enter Tryz.func30, Tryz.ntmps30
      go_wp2_with (first | (go_at_call 41; refine (isLetterM_any _ _).mono ?_; rw [hl]; rintro e w' ⟨rfl, rfl⟩) | (go_at_call 39; refine (MH.out _ hC2.out).mono ?_; rintro e w1 ⟨h1, rfl, hc1, hl1, hb1⟩))
      go_ret3
      exact tag_end HM.out ⟨h1, rfl, hc1, hl1, ((Below.refl _ _).setCell (Nat.le_refl g) _).trans hb1⟩
    · go_enter Tryz.func30, Tryz.ntmps30
      go_wp2_with (first | (go_at_call 41; refine (isLetterM_any _ _).mono ?_; rw [hl]; rintro e w' ⟨rfl, rfl⟩) | (go_at_call 39; refine (MH.out _ HC.out).mono ?_; rintro e w1 ⟨h1, rfl, hc1, hl1, hb1⟩))
      go_ret3
      exact tag_end HM.out ⟨h1, rfl, hc1, hl1, hb1⟩
end Go.Proofs.YtfmclgmcadiikaaGreat
