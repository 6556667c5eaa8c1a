/- Contracts of the reference's ClosingTag, comment and ReadTag. Conditions: texts of line feeds and printable bytes, of at most 1000 bytes, in which no comment begins. -/
import Derived.Test.YtfmclgmcadiikaaGreatTagS
import Derived.Test.YtfmclgmcadiikaaGreatCdata
namespace Go.Proofs.YtfmclgmcadiikaaGreat
open Go.RowKit
abbrev clP : ByteArray := ⟨#[60, 47]⟩
abbrev cmP : ByteArray := ⟨#[60, 33, 45, 45]⟩
abbrev piP : ByteArray := ⟨#[60, 63]⟩
abbrev piS : ByteArray := ⟨#[63, 62]⟩
abbrev dcP : ByteArray := ⟨#[60, 33]⟩
abbrev dcS : ByteArray := ⟨#[62]⟩
/-- The end of a closing tag behind its name. -/
def ctE (s : ByteArray) (j : Nat) : Option Nat := if scan blB s j < s.size ∧ bt s (scan blB s j) = 62 then some (scan blB s j + 1) else none
def clN (u : ByteArray) : Nat := if hitB u clP 0 = true then ((tnE u 2).bind (ctE u)).getD 0 else 0
set_option maxHeartbeats 1000000 in
theorem closingTag_any (u : ByteArray) (w : World) (hs : u.size ≤ 1000) (hL : LinedT u) : Calls Tryz.prog 12 #[.string u] w fun e w' => e = .returned (.int .i64 (clN u : Nat)) ∧ w = w' := by
  have hb := get_bt u
  by_cases h2 : 2 ≤ u.size
  case neg =>
    have hN : Hid (clN u = 0) := by unfold Hid clN; rw [hit_out (by show u.size < 0 + 2; omega)]; rfl
    have h2I : (u.size : Int) < 2 := by omega
    clear h2 hL
    go_enter Tryz.func12, Tryz.ntmps12
    go_wp2
    go_ret
    exact ⟨ret_int (by rw [hN.out]; rfl), rfl⟩
  have h2I : ¬ ((u.size : Int) < 2) := by omega
  have hh : hitB u clP 0 = ((u.extract 0 2).toList == [60, 47]) := by
    have := hit_in (u := u) (sub := clP) (k := 0) (by show 0 + 2 ≤ u.size; omega)
    rw [Nat.zero_add] at this
    rw [this, show clP.toList = [60, 47] by rw [Lib.toList_data]]
    rfl
  by_cases hp : ((u.extract 0 2).toList == [60, 47]) = true
  case neg =>
    have hp : ((u.extract 0 2).toList == [60, 47]) = false := by simpa using hp
    have hN : Hid (clN u = 0) := by unfold Hid clN; rw [hh, hp]; rfl
    have hp' : ((u.extract 0 2).toList != [60, 47]) = true := by simpa using hp
    clear hh hL
    go_enter Tryz.func12, Tryz.ntmps12
    go_wp2
    go_ret
    exact ⟨ret_int (by rw [hN.out]; rfl), rfl⟩
  have hp' : ((u.extract 0 2).toList != [60, 47]) = false := by simpa using hp
  have TN := fun wx => tagName_any u 2 wx hs h2
  cases hT : tnE u 2 with
  | none =>
    have hN : Hid (clN u = 0) := by unfold Hid clN; rw [hh, hp, hT]; rfl
    rw [hT] at TN
    have TN := hide TN
    clear hh hL hT
    go_enter Tryz.func12, Tryz.ntmps12
    go_wp2_with (go_at_call 19; refine (TN.out _).mono ?_; rintro e w' ⟨rfl, rfl⟩)
    go_ret
    exact ⟨ret_int (by rw [hN.out]; rfl), rfl⟩
  | some j =>
    have hj := (tn_le hT).2
    rw [hT] at TN
    have TN : Hid (∀ wx : World, Calls Tryz.prog 19 #[.string u, .int .i64 2] wx fun e w' => e = .returned (.int .i64 (j : Nat)) ∧ wx = w') := TN
    obtain ⟨a, ha⟩ : ∃ a, a = scan blB u j := ⟨_, rfl⟩
    have hau : a ≤ u.size := by rw [ha]; exact scan_le _ _ hj
    have PB1 : Hid (PBc u j a) := fun wx => by rw [ha]; exact pastBlank_any u j wx hs hj hL
    have hN : Hid (clN u = (ctE u j).getD 0) := by unfold Hid clN; rw [hh, hp, hT]; rfl
    by_cases h3 : a < u.size
    · by_cases h4 : bt u a = 62
      · have c4 : (bt u a == 62) = true := by simp [h4]
        have hE : Hid (ctE u j = some (a + 1)) := by unfold Hid ctE; rw [← ha, if_pos ⟨h3, h4⟩]
        clear hh hL hT h4 ha
        go_enter Tryz.func12, Tryz.ntmps12
        go_wp2_with (first | (go_at_call 19; refine (TN.out _).mono ?_; rintro e w' ⟨rfl, rfl⟩) | (go_at_call 20; with_reducible refine (PB1.out _).mono ?_; rintro e w' ⟨rfl, rfl⟩))
        go_ret
        exact ⟨ret_int (by rw [hN.out, hE.out]; rfl), rfl⟩
      · have c4 : (bt u a == 62) = false := by simp [h4]
        have hE : Hid (ctE u j = none) := by unfold Hid ctE; rw [← ha, if_neg (fun x => h4 x.2)]
        clear hh hL hT h4 ha
        go_enter Tryz.func12, Tryz.ntmps12
        go_wp2_with (first | (go_at_call 19; refine (TN.out _).mono ?_; rintro e w' ⟨rfl, rfl⟩) | (go_at_call 20; with_reducible refine (PB1.out _).mono ?_; rintro e w' ⟨rfl, rfl⟩))
        go_ret
        exact ⟨ret_int (by rw [hN.out, hE.out]; rfl), rfl⟩
    · have hE : Hid (ctE u j = none) := by unfold Hid ctE; rw [← ha, if_neg (fun x => h3 x.1)]
      have h3I : ¬ ((a : Int) < (u.size : Int)) := by omega
      clear hh hL hT h3 ha
      go_enter Tryz.func12, Tryz.ntmps12
      go_wp2_with (first | (go_at_call 19; refine (TN.out _).mono ?_; rintro e w' ⟨rfl, rfl⟩) | (go_at_call 20; with_reducible refine (PB1.out _).mono ?_; rintro e w' ⟨rfl, rfl⟩))
      go_ret
      exact ⟨ret_int (by rw [hN.out, hE.out]; rfl), rfl⟩
theorem comment_no (u : ByteArray) (w : World) (hs : u.size ≤ 1000) (hc : hitB u cmP 0 = false) : Calls Tryz.prog 13 #[.string u] w fun e w' => e = .returned (.int .i64 0) ∧ w = w' := by
  have U : ∀ wx : World, Calls Tryz.prog 14 #[.string u, .string cmP, .string ⟨#[45, 45]⟩] wx fun e w' => e = .returned (.int .i64 0) ∧ wx = w' := fun wx =>
    (until_any u cmP ⟨#[45, 45]⟩ wx (by omega) (by decide) (by decide)).mono fun e w' h => by
      unfold untilN at h; rw [hc] at h; exact h
  have UH := hide U
  clear U hc
  go_enter Tryz.func13, Tryz.ntmps13
  go_wp2_with (go_at_call 14; refine (UH.out _).mono ?_; rintro e w' ⟨rfl, rfl⟩)
  go_ret
  exact ⟨rfl, rfl⟩
def piN (u : ByteArray) : Nat := untilN u piP piS
def cdN (u : ByteArray) : Nat := untilN u cdP cdS
def dlN (u : ByteArray) : Nat := untilN u dcP dcS
/-- May a declaration begin? -/
def dlB (u : ByteArray) : Bool := decide (2 < u.size) && (hitB u dcP 0 && ltB (bt u 2))
def rtN (u : ByteArray) : Nat := if 0 < otN u then otN u else if 0 < clN u then clN u else if 0 < piN u then piN u else if 0 < cdN u then cdN u else if dlB u = true then dlN u else 0
set_option maxHeartbeats 1000000 in
set_option maxRecDepth 100000 in
theorem readTag_any (u : ByteArray) (w : World) (hs : u.size ≤ 1000) (hL : LinedT u) (hc : hitB u cmP 0 = false) : Calls Tryz.prog 7 #[.string u] w fun e w' => e = .returned (.int .i64 (rtN u : Nat)) ∧ Below w.heap.size w w' := by
  have hb := get_bt u
  have OT := fun wx => openTag_any u wx hs hL
  have CT := fun wx => closingTag_any u wx hs hL
  have CM := hide (fun wx => comment_no u wx hs hc)
  have PI : ∀ wx : World, Calls Tryz.prog 14 #[.string u, .string piP, .string piS] wx fun e w' => e = .returned (.int .i64 (piN u : Nat)) ∧ wx = w' := fun wx => until_any u piP piS wx (by omega) (by decide) (by decide)
  have CD : ∀ wx : World, Calls Tryz.prog 14 #[.string u, .string cdP, .string cdS] wx fun e w' => e = .returned (.int .i64 (cdN u : Nat)) ∧ wx = w' := fun wx => until_any u cdP cdS wx (by omega) (by decide) (by decide)
  have DL : Hid (∀ wx : World, Calls Tryz.prog 14 #[.string u, .string dcP, .string dcS] wx fun e w' => e = .returned (.int .i64 (dlN u : Nat)) ∧ wx = w') := fun wx => until_any u dcP dcS wx (by omega) (by decide) (by decide)
  clear hL hc
  by_cases n0 : otN u = 0
  case neg =>
    have hN : Hid (rtN u = otN u) := by unfold Hid rtN; rw [if_pos (show 0 < otN u by omega)]
    have nI : (0 : Int) < (otN u : Int) := by omega
    have OT := hide OT
    clear n0
    go_enter Tryz.func7, Tryz.ntmps7
    go_wp2_with (first | (go_at_call 11; with_reducible refine (OT.out _).mono ?_; rintro e w1 ⟨rfl, hb1⟩))
    go_ret
    exact ⟨ret_int (by rw [hN.out]), hb1⟩
  simp only [n0] at OT
  have OT := hide OT
  by_cases n1 : clN u = 0
  case neg =>
    have hN : Hid (rtN u = clN u) := by unfold Hid rtN; rw [if_neg (by rw [n0]; decide), if_pos (show 0 < clN u by omega)]
    have nI : (0 : Int) < (clN u : Int) := by omega
    have CT := hide CT
    clear n0 n1
    go_enter Tryz.func7, Tryz.ntmps7
    go_wp2_with (first | (go_at_call 11; with_reducible refine (OT.out _).mono ?_; rintro e w1 ⟨rfl, hb1⟩) | (go_at_call 12; with_reducible refine (CT.out _).mono ?_; rintro e w' ⟨rfl, rfl⟩))
    go_ret
    exact ⟨ret_int (by rw [hN.out]), hb1⟩
  simp only [n1] at CT
  have CT := hide CT
  by_cases n2 : piN u = 0
  case neg =>
    have hN : Hid (rtN u = piN u) := by unfold Hid rtN; rw [if_neg (by rw [n0]; decide), if_neg (by rw [n1]; decide), if_pos (show 0 < piN u by omega)]
    have nI : (0 : Int) < (piN u : Int) := by omega
    have PI := hide PI
    clear n0 n1 n2
    go_enter Tryz.func7, Tryz.ntmps7
    go_wp2_with (first | (go_at_call 11; with_reducible refine (OT.out _).mono ?_; rintro e w1 ⟨rfl, hb1⟩) | (go_at_call 12; with_reducible refine (CT.out _).mono ?_; rintro e w' ⟨rfl, rfl⟩) | (go_at_call 14; with_reducible refine (PI.out _).mono ?_; rintro e w' ⟨rfl, rfl⟩) | (go_at_call 13; with_reducible refine (CM.out _).mono ?_; rintro e w' ⟨rfl, rfl⟩))
    go_ret
    exact ⟨ret_int (by rw [hN.out]), hb1⟩
  simp only [n2] at PI
  have PI := hide PI
  by_cases n3 : cdN u = 0
  case neg =>
    have hN : Hid (rtN u = cdN u) := by unfold Hid rtN; rw [if_neg (by rw [n0]; decide), if_neg (by rw [n1]; decide), if_neg (by rw [n2]; decide), if_pos (show 0 < cdN u by omega)]
    have nI : (0 : Int) < (cdN u : Int) := by omega
    have CD := hide CD
    clear n0 n1 n2 n3
    go_enter Tryz.func7, Tryz.ntmps7
    go_wp2_with (first | (go_at_call 11; with_reducible refine (OT.out _).mono ?_; rintro e w1 ⟨rfl, hb1⟩) | (go_at_call 12; with_reducible refine (CT.out _).mono ?_; rintro e w' ⟨rfl, rfl⟩) | (go_at_call 14; with_reducible refine (PI.out _).mono ?_; rintro e w' ⟨rfl, rfl⟩) | (go_at_call 14; with_reducible refine (CD.out _).mono ?_; rintro e w' ⟨rfl, rfl⟩) | (go_at_call 13; with_reducible refine (CM.out _).mono ?_; rintro e w' ⟨rfl, rfl⟩))
    go_ret
    exact ⟨ret_int (by rw [hN.out]), hb1⟩
  simp only [n3] at CD
  have CD := hide CD
  have hR : rtN u = if dlB u = true then dlN u else 0 := by unfold rtN; rw [if_neg (by rw [n0]; decide), if_neg (by rw [n1]; decide), if_neg (by rw [n2]; decide), if_neg (by rw [n3]; decide)]
  have HR := hide hR
  clear n0 n1 n2 n3 hR
  by_cases h2 : 2 < u.size
  case neg =>
    have hN : Hid (rtN u = 0) := by unfold Hid; rw [HR.out, if_neg]; unfold dlB; rw [decide_eq_false h2]; simp
    have h2I : (u.size : Int) ≤ 2 := by omega
    clear h2
    go_enter Tryz.func7, Tryz.ntmps7
    go_wp2_with (first | (go_at_call 11; with_reducible refine (OT.out _).mono ?_; rintro e w1 ⟨rfl, hb1⟩) | (go_at_call 12; with_reducible refine (CT.out _).mono ?_; rintro e w' ⟨rfl, rfl⟩) | (go_at_call 13; with_reducible refine (CM.out _).mono ?_; rintro e w' ⟨rfl, rfl⟩) | (go_at_call 14; with_reducible refine (PI.out _).mono ?_; rintro e w' ⟨rfl, rfl⟩) | (go_at_call 14; with_reducible refine (CD.out _).mono ?_; rintro e w' ⟨rfl, rfl⟩))
    go_ret
    exact ⟨ret_int (by rw [hN.out]; rfl), hb1⟩
  have h2I : (2 : Int) < (u.size : Int) := by omega
  have hh : hitB u dcP 0 = ((u.extract 0 2).toList == [60, 33]) := by
    have := hit_in (u := u) (sub := dcP) (k := 0) (by show 0 + 2 ≤ u.size; omega)
    rw [Nat.zero_add] at this
    rw [this, show dcP.toList = [60, 33] by rw [Lib.toList_data]]
    rfl
  by_cases hp : ((u.extract 0 2).toList == [60, 33]) = true
  case neg =>
    have hp : ((u.extract 0 2).toList == [60, 33]) = false := by simpa using hp
    have hN : Hid (rtN u = 0) := by unfold Hid; rw [HR.out, if_neg]; unfold dlB; rw [hh, hp]; simp
    clear hh
    go_enter Tryz.func7, Tryz.ntmps7
    go_wp2_with (first | (go_at_call 11; with_reducible refine (OT.out _).mono ?_; rintro e w1 ⟨rfl, hb1⟩) | (go_at_call 12; with_reducible refine (CT.out _).mono ?_; rintro e w' ⟨rfl, rfl⟩) | (go_at_call 13; with_reducible refine (CM.out _).mono ?_; rintro e w' ⟨rfl, rfl⟩) | (go_at_call 14; with_reducible refine (PI.out _).mono ?_; rintro e w' ⟨rfl, rfl⟩) | (go_at_call 14; with_reducible refine (CD.out _).mono ?_; rintro e w' ⟨rfl, rfl⟩) | (go_at_call 15; refine (isLetter_any _ _).mono ?_; rintro e w' ⟨rfl, rfl⟩))
    go_ret
    exact ⟨ret_int (by rw [hN.out]; rfl), hb1⟩
  by_cases hl : ltB (bt u 2) = true
  · have hN : Hid (rtN u = dlN u) := by unfold Hid; rw [HR.out, if_pos]; unfold dlB; rw [hh, hp, hl, decide_eq_true h2]; rfl
    clear hh
    go_enter Tryz.func7, Tryz.ntmps7
    go_wp2_with (first | (go_at_call 11; with_reducible refine (OT.out _).mono ?_; rintro e w1 ⟨rfl, hb1⟩) | (go_at_call 12; with_reducible refine (CT.out _).mono ?_; rintro e w' ⟨rfl, rfl⟩) | (go_at_call 13; with_reducible refine (CM.out _).mono ?_; rintro e w' ⟨rfl, rfl⟩) | (go_at_call 14; with_reducible refine (PI.out _).mono ?_; rintro e w' ⟨rfl, rfl⟩) | (go_at_call 14; with_reducible refine (CD.out _).mono ?_; rintro e w' ⟨rfl, rfl⟩) | (go_at_call 14; with_reducible refine (DL.out _).mono ?_; rintro e w' ⟨rfl, rfl⟩) | (go_at_call 15; refine (isLetter_any _ _).mono ?_; rintro e w' ⟨rfl, rfl⟩))
    go_ret
    exact ⟨ret_int (by rw [hN.out]), hb1⟩
  · have hl : ltB (bt u 2) = false := by simpa using hl
    have hN : Hid (rtN u = 0) := by unfold Hid; rw [HR.out, if_neg]; unfold dlB; rw [hl]; simp
    clear hh
    go_enter Tryz.func7, Tryz.ntmps7
    go_wp2_with (first | (go_at_call 11; with_reducible refine (OT.out _).mono ?_; rintro e w1 ⟨rfl, hb1⟩) | (go_at_call 12; with_reducible refine (CT.out _).mono ?_; rintro e w' ⟨rfl, rfl⟩) | (go_at_call 13; with_reducible refine (CM.out _).mono ?_; rintro e w' ⟨rfl, rfl⟩) | (go_at_call 14; with_reducible refine (PI.out _).mono ?_; rintro e w' ⟨rfl, rfl⟩) | (go_at_call 14; with_reducible refine (CD.out _).mono ?_; rintro e w' ⟨rfl, rfl⟩) | (go_at_call 15; refine (isLetter_any _ _).mono ?_; rintro e w' ⟨rfl, rfl⟩))
    go_ret
    exact ⟨ret_int (by rw [hN.out]; rfl), hb1⟩
end Go.Proofs.YtfmclgmcadiikaaGreat
