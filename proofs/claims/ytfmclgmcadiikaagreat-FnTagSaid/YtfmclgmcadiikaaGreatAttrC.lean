/- (The state's corner may be set.) Contracts of zzContains, parseAttrValueSpec, zzState, parseAttr and the reading of an attribute. Conditions: texts of at most 1000 bytes. -/
import Derived.Test.YtfmclgmcadiikaaGreatAttr4
namespace Go.Proofs.YtfmclgmcadiikaaGreat
open Go.RowKit
theorem zzContains_any (u sub : ByteArray) (w : World) (hs : u.size ≤ 2147483647) (ht : sub.size ≤ 2147483647) (hp : 0 < sub.size) : Calls Tryz.prog 40 #[.string u, .string sub] w fun e w' => e = .returned (.bool (decide (0 ≤ idxI (fst_ u sub 0)))) ∧ w = w' := by
  go_enter Tryz.func40, Tryz.ntmps40
  go_wp2_with (go_at_call 46; refine (zzIndex_any _ _ _ hs ht hp).mono ?_; rintro e w' ⟨rfl, rfl⟩)
  all_goals
    go_ret
    exact ⟨ret_bool (by simp_all), rfl⟩
/-- The state's corner is a bool that may be written. -/
def CorP (g : Nat) (w : World) : Prop := g < w.heap.size ∧ (∃ c, w.cell? ⟨g, 6, none⟩ = some (.bool c)) ∧ w.frozen? ⟨g, 6, none⟩ = false
theorem CorP.below {g : Nat} {w w' : World} (h : CorP g w) (hb : Below w.heap.size w w') : CorP g w' := by
  obtain ⟨h1, ⟨c, h2⟩, h3⟩ := h
  exact ⟨by have := hb.size; omega, ⟨c, (hb.cell (p := ⟨g, 6, none⟩) h1).trans h2⟩, (hb.frozen (p := ⟨g, 6, none⟩) h1).trans h3⟩
theorem CorP.set {g : Nat} {w : World} (h : CorP g w) (c : Bool) : CorP g (w.setCell ⟨g, 6, none⟩ (.bool c)) := by
  obtain ⟨h1, ⟨d, h2⟩, h3⟩ := h
  exact ⟨by simpa using h1, ⟨c, World.cell?_setCell_same _ _ _ h2⟩, by simpa using h3⟩
/-- The end of a value behind an equals sign. -/
def svE (s : ByteArray) (i : Nat) : Option Nat :=
  if scan blB s i + 1 < s.size ∧ bt s (scan blB s i) = 61 then avE s (scan blB s (scan blB s i + 1)) else none
def svV (s : ByteArray) (i : Nat) : Value := match svE s i with | some e => .tuple #[.string (s.extract (scan blB s (scan blB s i + 1)) e), .int .i64 (e : Nat), .bool true] | none => .tuple #[.string ⟨#[]⟩, .int .i64 0, .bool false]
theorem avE_ge {s : ByteArray} {i e : Nat} (hi : i ≤ s.size) (h : avE s i = some e) : i < e ∧ e ≤ s.size := by
  unfold avE at h
  split at h
  · split at h
    · split at h
      · injection h with h
        have := scan_ge (neB (bt s i)) s (i := i + 1) (by omega)
        omega
      · cases h
    · split at h
      · injection h with h
        have := (scan_is uvB s hi).2.1
        omega
      · cases h
  · cases h
set_option maxRecDepth 100000 in
set_option maxHeartbeats 4000000 in
theorem parseAttrValueSpec_any (s : ByteArray) (i g : Nat) (w : World) (hs : s.size ≤ 1000) (hi : i ≤ s.size) (hC : CorP g w) :
    Calls Tryz.prog 44 #[.pointer (some ⟨g, 0, none⟩), .string s, .int .i64 i] w fun e w' => e = .returned (svV s i) ∧ Below g w w' ∧ CorP g w' := by
  have HC := hide hC
  obtain ⟨hg, ⟨c, hc⟩, hf⟩ := hC
  have hb := get_bt s
  obtain ⟨v, hv⟩ : ∃ v, scan blB s i = v := ⟨_, rfl⟩
  have hv1 := (scan_is blB s hi).1
  have hv2 := (scan_is blB s hi).2.1
  rw [hv] at hv1 hv2
  have HV := hide hv
  have K0 : ∀ wx : World, Calls Tryz.prog 37 #[.string s, .int .i64 i] wx fun e w' => e = .returned (.int .i64 v) ∧ wx = w' := fun wx => by
    have := skipSpace_any s i wx (by simp only [maxLen]; omega) hi
    rw [hv] at this
    exact this
  have HJ := hide K0
  clear K0 HV
  by_cases h1 : v + 1 < s.size
  case neg =>
    have hN : Hid (svV s i = .tuple #[.string ⟨#[]⟩, .int .i64 0, .bool false]) := by unfold Hid svV svE; rw [hv, if_neg (fun x => h1 x.1)]
    have h1I : ¬ ((v : Int) + 1 < (s.size : Int)) := by omega
    clear h1 hv
    go_enter Tryz.func44, Tryz.ntmps44
    go_wp2_with (go_at_call 37; refine (HJ.out _).mono ?_; rintro e w' ⟨rfl, rfl⟩)
    go_ret3
    exact ⟨by rw [hN.out]; rfl, Below.refl _ _, HC.out⟩
  have h1I : (v : Int) + 1 < (s.size : Int) := by omega
  by_cases h2 : bt s v = 61
  case neg =>
    have hN : Hid (svV s i = .tuple #[.string ⟨#[]⟩, .int .i64 0, .bool false]) := by unfold Hid svV svE; rw [hv, if_neg (fun x => h2 x.2)]
    have c1 : (bt s v == 61) = false := by simpa using h2
    clear h2 hv
    go_enter Tryz.func44, Tryz.ntmps44
    go_wp2_with (go_at_call 37; refine (HJ.out _).mono ?_; rintro e w' ⟨rfl, rfl⟩)
    go_ret3
    exact ⟨by rw [hN.out]; rfl, Below.refl _ _, HC.out⟩
  have c1 : (bt s v == 61) = true := by simp [h2]
  obtain ⟨q, hq⟩ : ∃ q, scan blB s (v + 1) = q := ⟨_, rfl⟩
  have hq1 := (scan_is blB s (i := v + 1) (by omega)).1
  have hq2 := (scan_is blB s (i := v + 1) (by omega)).2.1
  rw [hq] at hq1 hq2
  have K : ∀ wx : World, Calls Tryz.prog 37 #[.string s, .int .i64 ((v : Int) + 1)] wx fun e w' => e = .returned (.int .i64 q) ∧ wx = w' := fun wx => by
    have := skipSpace_any s (v + 1) wx (by simp only [maxLen]; omega) (by omega)
    rw [hq] at this
    simpa using this
  have HK := hide K
  clear K
  have hS : svE s i = avE s q := by unfold svE; rw [hv, if_pos ⟨h1, h2⟩, hq]
  cases hE : avE s q with
  | none =>
    have hN : Hid (svV s i = .tuple #[.string ⟨#[]⟩, .int .i64 0, .bool false]) := by unfold Hid svV; rw [hS, hE]
    have C : ∀ wx : World, Calls Tryz.prog 48 #[.string s, .int .i64 q] wx fun e w' => e = .returned (.tuple #[.string ⟨#[]⟩, .int .i64 0, .bool false]) ∧ Below wx.heap.size wx w' := fun wx =>
      (parseAttrValue_any s q wx hs hq2).mono fun e w' h => by unfold avV at h; rw [hE] at h; exact h
    have CH := hide C
    clear h2 hv hq hS hE C
    go_enter Tryz.func44, Tryz.ntmps44
    go_wp2_with (first | (go_at_call 37; with_reducible refine (HJ.out _).mono ?_; rintro e w' ⟨rfl, rfl⟩) | (go_at_call 37; with_reducible refine (HK.out _).mono ?_; rintro e w' ⟨rfl, rfl⟩) | (go_at_call 48; refine (CH.out _).mono ?_; rintro e w1 ⟨rfl, hb1⟩))
    go_ret3
    exact ⟨by rw [hN.out]; rfl, hb1.mono (by omega), HC.out.below hb1⟩
  | some e =>
    obtain ⟨e1, e2⟩ := avE_ge hq2 hE
    have hN : Hid (svV s i = .tuple #[.string (s.extract q e), .int .i64 e, .bool true]) := by unfold Hid svV; rw [hS, hE, hv, hq]
    have C : ∀ wx : World, Calls Tryz.prog 48 #[.string s, .int .i64 q] wx fun e' w' => e' = .returned (.tuple #[.string (s.extract q e), .int .i64 e, .bool true]) ∧ Below wx.heap.size wx w' := fun wx =>
      (parseAttrValue_any s q wx hs hq2).mono fun e' w' h => by unfold avV at h; rw [hE] at h; exact h
    have CH := hide C
    have f1 : (q : Int) ≤ (e : Int) := by omega
    have f2 : (e : Int) ≤ (s.size : Int) := by omega
    clear h2 hv hq hS hE C
    cases c
    all_goals
      go_enter Tryz.func44, Tryz.ntmps44
      go_wp2_with (first | (go_at_call 37; with_reducible refine (HJ.out _).mono ?_; rintro e w' ⟨rfl, rfl⟩) | (go_at_call 37; with_reducible refine (HK.out _).mono ?_; rintro e w' ⟨rfl, rfl⟩) | (go_at_call 48; refine (CH.out _).mono ?_; rintro e' w1 ⟨rfl, hb1⟩; have hc1 := (hb1.cell (p := ⟨g, 6, none⟩) hg).trans hc; have hf1 := (hb1.frozen (p := ⟨g, 6, none⟩) hg).trans hf) | (go_at_call 40; refine (zzContains_any _ _ _ (by rw [ByteArray.size_extract]; omega) (by decide) (by decide)).mono ?_; rintro e' w' ⟨rfl, rfl⟩))
      all_goals
        go_ret3
        exact ⟨by rw [hN.out]; rfl, (hb1.mono (Nat.le_of_lt hg)).setCell (Nat.le_refl g) _, (HC.out.below hb1).set _⟩
/-- The end of an attribute, behind its blanks. -/
def atE (s : ByteArray) (i : Nat) : Option Nat :=
  if i + 1 < s.size ∧ nsB (bt s i) = true then some ((svE s (scan nmB s i)).getD (scan nmB s i)) else none
def atV (s : ByteArray) (i : Nat) : Value := match atE s (scan blB s i) with | some e => .tuple #[.string (s.extract (scan blB s i) e), .int .i64 (e : Nat), .bool true] | none => .tuple #[.string ⟨#[]⟩, .int .i64 0, .bool false]
theorem svE_ge {s : ByteArray} {i e : Nat} (hi : i ≤ s.size) (h : svE s i = some e) : i < e ∧ e ≤ s.size := by
  unfold svE at h
  split at h
  · rename_i h1
    have := (scan_is blB s (i := scan blB s i + 1) (by omega))
    have := avE_ge this.2.1 h
    have := scan_ge blB s hi
    omega
  · cases h
set_option maxRecDepth 100000 in
set_option maxHeartbeats 4000000 in
theorem parseAttr_any (s : ByteArray) (i g : Nat) (w : World) (hs : s.size ≤ 1000) (hi : i ≤ s.size) (hC : CorP g w) :
    Calls Tryz.prog 36 #[.pointer (some ⟨g, 0, none⟩), .string s, .int .i64 i] w fun e w' => e = .returned (atV s i) ∧ Below g w w' ∧ CorP g w' := by
  have HC := hide hC
  clear hC
  obtain ⟨v, hv⟩ : ∃ v, scan blB s i = v := ⟨_, rfl⟩
  have hv2 := (scan_is blB s hi).2.1
  rw [hv] at hv2
  have K0 : ∀ wx : World, Calls Tryz.prog 37 #[.string s, .int .i64 i] wx fun e w' => e = .returned (.int .i64 v) ∧ wx = w' := fun wx => by
    have := skipSpace_any s i wx (by simp only [maxLen]; omega) hi
    rw [hv] at this
    exact this
  have HJ := hide K0
  clear K0
  by_cases h1 : v + 1 < s.size ∧ nsB (bt s v) = true
  case neg =>
    have hN : Hid (atV s i = .tuple #[.string ⟨#[]⟩, .int .i64 0, .bool false]) := by unfold Hid atV atE; rw [hv, if_neg h1]
    have C := fun wx => parseAttrName_no s v wx hs hv2 h1
    have CH := hide C
    clear C h1 hv
    go_enter Tryz.func36, Tryz.ntmps36
    go_wp2_with (first | (go_at_call 37; refine (HJ.out _).mono ?_; rintro e w' ⟨rfl, rfl⟩) | (go_at_call 43; refine (CH.out _).mono ?_; rintro e w' ⟨rfl, rfl⟩))
    go_ret3
    exact ⟨by rw [hN.out]; rfl, Below.refl _ _, HC.out⟩
  obtain ⟨n, hn⟩ : ∃ n, scan nmB s v = n := ⟨_, rfl⟩
  obtain ⟨hn1, hn2, _⟩ := scan_is nmB s hv2
  rw [hn] at hn1 hn2
  have C := fun wx => parseAttrName_yes s v wx hs h1.1 h1.2
  rw [hn] at C
  have CH := hide C
  clear C
  cases hE : svE s n with
  | none =>
    have hN : Hid (atV s i = .tuple #[.string (s.extract v n), .int .i64 n, .bool true]) := by unfold Hid atV atE; rw [hv, if_pos h1, hn, hE]; rfl
    have D : ∀ wx : World, CorP g wx → Calls Tryz.prog 44 #[.pointer (some ⟨g, 0, none⟩), .string s, .int .i64 n] wx fun e w' => e = .returned (.tuple #[.string ⟨#[]⟩, .int .i64 0, .bool false]) ∧ Below g wx w' ∧ CorP g w' := fun wx a =>
      (parseAttrValueSpec_any s n g wx hs hn2 a).mono fun e w' h => by unfold svV at h; rw [hE] at h; exact h
    have DH := hide D
    have f1 : (v : Int) ≤ (n : Int) := by omega
    have f2 : (n : Int) ≤ (s.size : Int) := by omega
    clear D h1 hv hn hE
    go_enter Tryz.func36, Tryz.ntmps36
    go_wp2_with (first | (go_at_call 37; refine (HJ.out _).mono ?_; rintro e w' ⟨rfl, rfl⟩) | (go_at_call 43; refine (CH.out _).mono ?_; rintro e w' ⟨rfl, rfl⟩) | (go_at_call 44; refine (DH.out _ HC.out).mono ?_; rintro e w1 ⟨rfl, hb1, hC1⟩))
    go_ret3
    exact ⟨by rw [hN.out]; rfl, hb1, hC1⟩
  | some e =>
    obtain ⟨e1, e2⟩ := svE_ge hn2 hE
    have hN : Hid (atV s i = .tuple #[.string (s.extract v e), .int .i64 e, .bool true]) := by unfold Hid atV atE; rw [hv, if_pos h1, hn, hE]; rfl
    obtain ⟨x, hx⟩ : ∃ x, s.extract (scan blB s (scan blB s n + 1)) e = x := ⟨_, rfl⟩
    have D : ∀ wx : World, CorP g wx → Calls Tryz.prog 44 #[.pointer (some ⟨g, 0, none⟩), .string s, .int .i64 n] wx fun e' w' => e' = .returned (.tuple #[.string x, .int .i64 e, .bool true]) ∧ Below g wx w' ∧ CorP g w' := fun wx a =>
      (parseAttrValueSpec_any s n g wx hs hn2 a).mono fun e w' h => by unfold svV at h; rw [hE, ← hx] at *; exact h
    have DH := hide D
    have f1 : (v : Int) ≤ (e : Int) := by omega
    have f2 : (e : Int) ≤ (s.size : Int) := by omega
    clear D h1 hv hn hE hx
    go_enter Tryz.func36, Tryz.ntmps36
    go_wp2_with (first | (go_at_call 37; refine (HJ.out _).mono ?_; rintro e w' ⟨rfl, rfl⟩) | (go_at_call 43; refine (CH.out _).mono ?_; rintro e w' ⟨rfl, rfl⟩) | (go_at_call 44; refine (DH.out _ HC.out).mono ?_; rintro e w1 ⟨rfl, hb1, hC1⟩))
    go_ret3
    exact ⟨by rw [hN.out]; rfl, hb1, hC1⟩
theorem zzState_any (w : World) : Calls Tryz.prog 18 #[] w fun e w' => e = .returned (.pointer (some ⟨w.heap.size + 2, 0, none⟩)) ∧ Below w.heap.size w w' ∧ CorP (w.heap.size + 2) w' := by
  have hmm := @run_makeMap Tryz.prog
  go_enter Tryz.func18, Tryz.ntmps18
  go_wp2
  go_ret
  refine ⟨rfl, by go_grown, by simp, ⟨false, ?_⟩, ?_⟩
  · exact (World.cell?_alloc_at _ _ _ _ (by simp)).trans (by rfl)
  · exact World.frozen?_alloc_at _ _ _ _ (by simp)
end Go.Proofs.YtfmclgmcadiikaaGreat
