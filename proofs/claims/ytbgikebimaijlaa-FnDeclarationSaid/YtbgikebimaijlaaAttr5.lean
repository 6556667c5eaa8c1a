/- Contracts of zzContains, parseAttrValueSpec, zzState, parseAttr and the reading of an attribute. Conditions: texts of at most 1000 bytes. -/
import Derived.Test.YtbgikebimaijlaaAttr4
namespace Go.Proofs.Ytbgikebimaijlaa
open Go.RowKit
theorem zzContains_any (u sub : ByteArray) (w : World) (hs : u.size ≤ 2147483647) (ht : sub.size ≤ 2147483647) (hp : 0 < sub.size) : Calls Try.prog 57 #[.string u, .string sub] w fun e w' => e = .returned (.bool (decide (0 ≤ idxI (fst_ u sub 0)))) ∧ w = w' := by
  go_enter Try.func57, Try.ntmps57
  go_wp2_with (go_at_call 54; refine (zzIndex_any _ _ _ hs ht hp).mono ?_; rintro e w' ⟨rfl, rfl⟩)
  all_goals
    go_ret
    exact ⟨ret_bool (by simp_all), rfl⟩
/-- The end of a value behind an equals sign. -/
def svE (s : ByteArray) (i : Nat) : Option Nat :=
  if scan blB s i + 1 < s.size ∧ bt s (scan blB s i) = 61 then avE s (scan blB s (scan blB s i + 1)) else none
def svV (s : ByteArray) (i : Nat) : Value := match svE s i with | some e => .tuple #[.string (s.extract (scan blB s (scan blB s i + 1)) e), .int .i64 (e : Nat), .bool true] | none => .tuple #[.string ⟨#[]⟩, .int .i64 0, .bool false]
theorem avE_ge {s : ByteArray} {i e : Nat} (hi : i ≤ s.size) (h : avE s i = some e) : i < e ∧ e ≤ s.size := by
  unfold avE at h
  split at h
  · split at h
    · split at h
      · injection h with h
        have := scan_ge (neB (bt s i)) s (i := i + 1) (by omega)
        omega
      · cases h
    · split at h
      · injection h with h
        have := (scan_is uvB s hi).2.1
        omega
      · cases h
  · cases h
set_option maxRecDepth 100000 in
set_option maxHeartbeats 4000000 in
theorem parseAttrValueSpec_any (s : ByteArray) (i g : Nat) (w : World) (hs : s.size ≤ 1000) (hi : i ≤ s.size) (hg : g < w.heap.size) (hc : w.cell? ⟨g, 6, none⟩ = some (.bool false)) (hf : w.frozen? ⟨g, 6, none⟩ = false) :
    Calls Try.prog 48 #[.pointer (some ⟨g, 0, none⟩), .string s, .int .i64 i] w fun e w' => e = .returned (svV s i) ∧ Below g w w' := by
  have hb := get_bt s
  obtain ⟨v, hv⟩ : ∃ v, scan blB s i = v := ⟨_, rfl⟩
  have hv1 := (scan_is blB s hi).1
  have hv2 := (scan_is blB s hi).2.1
  rw [hv] at hv1 hv2
  have HV := hide hv
  have K0 : ∀ wx : World, Calls Try.prog 46 #[.string s, .int .i64 i] wx fun e w' => e = .returned (.int .i64 v) ∧ wx = w' := fun wx => by
    have := skipSpace_any s i wx (by simp only [maxLen]; omega) hi
    rw [hv] at this
    exact this
  have HJ := hide K0
  clear K0 HV
  by_cases h1 : v + 1 < s.size
  case neg =>
    have hN : Hid (svV s i = .tuple #[.string ⟨#[]⟩, .int .i64 0, .bool false]) := by unfold Hid svV svE; rw [hv, if_neg (fun x => h1 x.1)]
    have h1I : ¬ ((v : Int) + 1 < (s.size : Int)) := by omega
    clear h1 hv
    go_enter Try.func48, Try.ntmps48
    go_wp2_with (go_at_call 46; refine (HJ.out _).mono ?_; rintro e w' ⟨rfl, rfl⟩)
    go_ret3
    exact ⟨by rw [hN.out]; rfl, Below.refl _ _⟩
  have h1I : (v : Int) + 1 < (s.size : Int) := by omega
  by_cases h2 : bt s v = 61
  case neg =>
    have hN : Hid (svV s i = .tuple #[.string ⟨#[]⟩, .int .i64 0, .bool false]) := by unfold Hid svV svE; rw [hv, if_neg (fun x => h2 x.2)]
    have c1 : (bt s v == 61) = false := by simpa using h2
    clear h2 hv
    go_enter Try.func48, Try.ntmps48
    go_wp2_with (go_at_call 46; refine (HJ.out _).mono ?_; rintro e w' ⟨rfl, rfl⟩)
    go_ret3
    exact ⟨by rw [hN.out]; rfl, Below.refl _ _⟩
  have c1 : (bt s v == 61) = true := by simp [h2]
  obtain ⟨q, hq⟩ : ∃ q, scan blB s (v + 1) = q := ⟨_, rfl⟩
  have hq1 := (scan_is blB s (i := v + 1) (by omega)).1
  have hq2 := (scan_is blB s (i := v + 1) (by omega)).2.1
  rw [hq] at hq1 hq2
  have K : ∀ wx : World, Calls Try.prog 46 #[.string s, .int .i64 ((v : Int) + 1)] wx fun e w' => e = .returned (.int .i64 q) ∧ wx = w' := fun wx => by
    have := skipSpace_any s (v + 1) wx (by simp only [maxLen]; omega) (by omega)
    rw [hq] at this
    simpa using this
  have HK := hide K
  clear K
  have hS : svE s i = avE s q := by unfold svE; rw [hv, if_pos ⟨h1, h2⟩, hq]
  cases hE : avE s q with
  | none =>
    have hN : Hid (svV s i = .tuple #[.string ⟨#[]⟩, .int .i64 0, .bool false]) := by unfold Hid svV; rw [hS, hE]
    have C : ∀ wx : World, Calls Try.prog 56 #[.string s, .int .i64 q] wx fun e w' => e = .returned (.tuple #[.string ⟨#[]⟩, .int .i64 0, .bool false]) ∧ Below wx.heap.size wx w' := fun wx =>
      (parseAttrValue_any s q wx hs hq2).mono fun e w' h => by unfold avV at h; rw [hE] at h; exact h
    have CH := hide C
    clear h2 hv hq hS hE C
    go_enter Try.func48, Try.ntmps48
    go_wp2_with (first | (go_at_call 46; with_reducible refine (HJ.out _).mono ?_; rintro e w' ⟨rfl, rfl⟩) | (go_at_call 46; with_reducible refine (HK.out _).mono ?_; rintro e w' ⟨rfl, rfl⟩) | (go_at_call 56; refine (CH.out _).mono ?_; rintro e w1 ⟨rfl, hb1⟩))
    go_ret3
    exact ⟨by rw [hN.out]; rfl, hb1.mono (by omega)⟩
  | some e =>
    obtain ⟨e1, e2⟩ := avE_ge hq2 hE
    have hN : Hid (svV s i = .tuple #[.string (s.extract q e), .int .i64 e, .bool true]) := by unfold Hid svV; rw [hS, hE, hv, hq]
    have C : ∀ wx : World, Calls Try.prog 56 #[.string s, .int .i64 q] wx fun e' w' => e' = .returned (.tuple #[.string (s.extract q e), .int .i64 e, .bool true]) ∧ Below wx.heap.size wx w' := fun wx =>
      (parseAttrValue_any s q wx hs hq2).mono fun e' w' h => by unfold avV at h; rw [hE] at h; exact h
    have CH := hide C
    have f1 : (q : Int) ≤ (e : Int) := by omega
    have f2 : (e : Int) ≤ (s.size : Int) := by omega
    clear h2 hv hq hS hE C
    go_enter Try.func48, Try.ntmps48
    go_wp2_with (first | (go_at_call 46; with_reducible refine (HJ.out _).mono ?_; rintro e w' ⟨rfl, rfl⟩) | (go_at_call 46; with_reducible refine (HK.out _).mono ?_; rintro e w' ⟨rfl, rfl⟩) | (go_at_call 56; refine (CH.out _).mono ?_; rintro e' w1 ⟨rfl, hb1⟩; have hc1 := (hb1.cell (p := ⟨g, 6, none⟩) hg).trans hc; have hf1 := (hb1.frozen (p := ⟨g, 6, none⟩) hg).trans hf) | (go_at_call 57; refine (zzContains_any _ _ _ (by rw [ByteArray.size_extract]; omega) (by decide) (by decide)).mono ?_; rintro e' w' ⟨rfl, rfl⟩))
    all_goals
      go_ret3
      exact ⟨by rw [hN.out]; rfl, (hb1.mono (Nat.le_of_lt hg)).setCell (Nat.le_refl g) _⟩
/-- The end of an attribute, behind its blanks. -/
def atE (s : ByteArray) (i : Nat) : Option Nat :=
  if i + 1 < s.size ∧ nsB (bt s i) = true then some ((svE s (scan nmB s i)).getD (scan nmB s i)) else none
def atV (s : ByteArray) (i : Nat) : Value := match atE s (scan blB s i) with | some e => .tuple #[.string (s.extract (scan blB s i) e), .int .i64 (e : Nat), .bool true] | none => .tuple #[.string ⟨#[]⟩, .int .i64 0, .bool false]
theorem svE_ge {s : ByteArray} {i e : Nat} (hi : i ≤ s.size) (h : svE s i = some e) : i < e ∧ e ≤ s.size := by
  unfold svE at h
  split at h
  · rename_i h1
    have := (scan_is blB s (i := scan blB s i + 1) (by omega))
    have := avE_ge this.2.1 h
    have := scan_ge blB s hi
    omega
  · cases h
set_option maxRecDepth 100000 in
set_option maxHeartbeats 4000000 in
theorem parseAttr_any (s : ByteArray) (i g : Nat) (w : World) (hs : s.size ≤ 1000) (hi : i ≤ s.size) (hg : g < w.heap.size) (hc : w.cell? ⟨g, 6, none⟩ = some (.bool false)) (hf : w.frozen? ⟨g, 6, none⟩ = false) :
    Calls Try.prog 34 #[.pointer (some ⟨g, 0, none⟩), .string s, .int .i64 i] w fun e w' => e = .returned (atV s i) ∧ Below g w w' := by
  obtain ⟨v, hv⟩ : ∃ v, scan blB s i = v := ⟨_, rfl⟩
  have hv2 := (scan_is blB s hi).2.1
  rw [hv] at hv2
  have K0 : ∀ wx : World, Calls Try.prog 46 #[.string s, .int .i64 i] wx fun e w' => e = .returned (.int .i64 v) ∧ wx = w' := fun wx => by
    have := skipSpace_any s i wx (by simp only [maxLen]; omega) hi
    rw [hv] at this
    exact this
  have HJ := hide K0
  clear K0
  by_cases h1 : v + 1 < s.size ∧ nsB (bt s v) = true
  case neg =>
    have hN : Hid (atV s i = .tuple #[.string ⟨#[]⟩, .int .i64 0, .bool false]) := by unfold Hid atV atE; rw [hv, if_neg h1]
    have C := fun wx => parseAttrName_no s v wx hs hv2 h1
    have CH := hide C
    clear C h1 hv
    go_enter Try.func34, Try.ntmps34
    go_wp2_with (first | (go_at_call 46; refine (HJ.out _).mono ?_; rintro e w' ⟨rfl, rfl⟩) | (go_at_call 47; refine (CH.out _).mono ?_; rintro e w' ⟨rfl, rfl⟩))
    go_ret3
    exact ⟨by rw [hN.out]; rfl, Below.refl _ _⟩
  obtain ⟨n, hn⟩ : ∃ n, scan nmB s v = n := ⟨_, rfl⟩
  obtain ⟨hn1, hn2, _⟩ := scan_is nmB s hv2
  rw [hn] at hn1 hn2
  have C := fun wx => parseAttrName_yes s v wx hs h1.1 h1.2
  rw [hn] at C
  have CH := hide C
  clear C
  cases hE : svE s n with
  | none =>
    have hN : Hid (atV s i = .tuple #[.string (s.extract v n), .int .i64 n, .bool true]) := by unfold Hid atV atE; rw [hv, if_pos h1, hn, hE]; rfl
    have D : ∀ wx : World, g < wx.heap.size → wx.cell? ⟨g, 6, none⟩ = some (.bool false) → wx.frozen? ⟨g, 6, none⟩ = false → Calls Try.prog 48 #[.pointer (some ⟨g, 0, none⟩), .string s, .int .i64 n] wx fun e w' => e = .returned (.tuple #[.string ⟨#[]⟩, .int .i64 0, .bool false]) ∧ Below g wx w' := fun wx a b c =>
      (parseAttrValueSpec_any s n g wx hs hn2 a b c).mono fun e w' h => by unfold svV at h; rw [hE] at h; exact h
    have DH := hide D
    have f1 : (v : Int) ≤ (n : Int) := by omega
    have f2 : (n : Int) ≤ (s.size : Int) := by omega
    clear D h1 hv hn hE
    go_enter Try.func34, Try.ntmps34
    go_wp2_with (first | (go_at_call 46; refine (HJ.out _).mono ?_; rintro e w' ⟨rfl, rfl⟩) | (go_at_call 47; refine (CH.out _).mono ?_; rintro e w' ⟨rfl, rfl⟩) | (go_at_call 48; refine (DH.out _ hg hc hf).mono ?_; rintro e w1 ⟨rfl, hb1⟩))
    go_ret3
    exact ⟨by rw [hN.out]; rfl, hb1⟩
  | some e =>
    obtain ⟨e1, e2⟩ := svE_ge hn2 hE
    have hN : Hid (atV s i = .tuple #[.string (s.extract v e), .int .i64 e, .bool true]) := by unfold Hid atV atE; rw [hv, if_pos h1, hn, hE]; rfl
    obtain ⟨x, hx⟩ : ∃ x, s.extract (scan blB s (scan blB s n + 1)) e = x := ⟨_, rfl⟩
    have D : ∀ wx : World, g < wx.heap.size → wx.cell? ⟨g, 6, none⟩ = some (.bool false) → wx.frozen? ⟨g, 6, none⟩ = false → Calls Try.prog 48 #[.pointer (some ⟨g, 0, none⟩), .string s, .int .i64 n] wx fun e' w' => e' = .returned (.tuple #[.string x, .int .i64 e, .bool true]) ∧ Below g wx w' := fun wx a b c =>
      (parseAttrValueSpec_any s n g wx hs hn2 a b c).mono fun e w' h => by unfold svV at h; rw [hE, ← hx] at *; exact h
    have DH := hide D
    have f1 : (v : Int) ≤ (e : Int) := by omega
    have f2 : (e : Int) ≤ (s.size : Int) := by omega
    clear D h1 hv hn hE hx
    go_enter Try.func34, Try.ntmps34
    go_wp2_with (first | (go_at_call 46; refine (HJ.out _).mono ?_; rintro e w' ⟨rfl, rfl⟩) | (go_at_call 47; refine (CH.out _).mono ?_; rintro e w' ⟨rfl, rfl⟩) | (go_at_call 48; refine (DH.out _ hg hc hf).mono ?_; rintro e w1 ⟨rfl, hb1⟩))
    go_ret3
    exact ⟨by rw [hN.out]; rfl, hb1⟩
theorem zzState_any (w : World) : Calls Try.prog 35 #[] w fun e w' => e = .returned (.pointer (some ⟨w.heap.size + 2, 0, none⟩)) ∧ Below w.heap.size w w' ∧ w.heap.size + 2 < w'.heap.size ∧ w'.cell? ⟨w.heap.size + 2, 6, none⟩ = some (.bool false) ∧ w'.frozen? ⟨w.heap.size + 2, 6, none⟩ = false := by
  have hmm := @run_makeMap Try.prog
  go_enter Try.func35, Try.ntmps35
  go_wp2
  go_ret
  refine ⟨rfl, by go_grown, by simp, ?_, ?_⟩
  · exact (World.cell?_alloc_at _ _ _ _ (by simp)).trans (by rfl)
  · exact World.frozen?_alloc_at _ _ _ _ (by simp)
set_option maxRecDepth 100000 in
theorem implAttr_any (s : ByteArray) (i : Nat) (w : World) (hs : s.size ≤ 1000) (hi : i ≤ s.size) :
    Calls Try.prog 13 #[.string s, .int .i64 i] w fun e w' => e = .returned (atV s i) ∧ Below w.heap.size w w' := by
  obtain ⟨x1, x2, x3, hx⟩ : ∃ a b c, atV s i = .tuple #[a, b, c] := by unfold atV; split <;> exact ⟨_, _, _, rfl⟩
  have P : ∀ (g : Nat) (wx : World), g < wx.heap.size → wx.cell? ⟨g, 6, none⟩ = some (.bool false) → wx.frozen? ⟨g, 6, none⟩ = false → Calls Try.prog 34 #[.pointer (some ⟨g, 0, none⟩), .string s, .int .i64 i] wx fun e w' => e = .returned (.tuple #[x1, x2, x3]) ∧ Below g wx w' := fun g wx a b c => by
    have := parseAttr_any s i g wx hs hi a b c
    rw [hx] at this
    exact this
  have PH := hide P
  rw [hx]
  clear P hx
  go_enter Try.func13, Try.ntmps13
  go_wp2_with (first | (go_at_call 35; refine (zzState_any _).mono ?_; rintro e w1 ⟨rfl, hb1, hz1, hc1, hf1⟩) | (go_at_call 34; refine (PH.out _ _ hz1 hc1 hf1).mono ?_; rintro e w2 ⟨rfl, hb2⟩) | go_in)
  go_ret3
  exact ⟨rfl, hb1.trans (hb2.mono (by omega))⟩
end Go.Proofs.Ytbgikebimaijlaa
