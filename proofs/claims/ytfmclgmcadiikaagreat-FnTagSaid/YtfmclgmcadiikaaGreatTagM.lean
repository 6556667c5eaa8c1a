/- Contracts of the package's parseTagName, parseHTMLOpenTag and parseHTMLClosingTag. Conditions: texts of at most 1000 bytes. -/
import Derived.Test.YtfmclgmcadiikaaGreatTagR
import Derived.Deep.LoopGhost
import Derived.Lib.Hide
import Derived.Deep.Cut
import Derived.Deep.CutRange
import Derived.Deep.CutBlock
import Derived.Deep.DeepCutAuto
namespace Go.Proofs.YtfmclgmcadiikaaGreat
open Go.RowKit
theorem parseTagName_no (s : ByteArray) (i : Nat) (w : World) (_ : s.size ≤ 1000) (hi : i ≤ s.size) (hn : tnE s i = none) : Calls Tryz.prog 35 #[.string s, .int .i64 i] w fun e w' => e = .returned (.tuple #[.string ⟨#[]⟩, .int .i64 0, .bool false]) ∧ w = w' := by
  have hb := get_bt s
  by_cases h1 : i < s.size
  · have h2 : ltB (bt s i) = false := by
      unfold tnE at hn
      by_cases g : ltB (bt s i) = true
      · rw [if_pos ⟨h1, g⟩] at hn; cases hn
      · simpa using g
    clear hn
    go_enter Tryz.func35, Tryz.ntmps35
    go_wp2_with (go_at_call 41; refine (isLetterM_any _ _).mono ?_; rintro e w' ⟨rfl, rfl⟩)
    go_ret3
    exact ⟨rfl, rfl⟩
  · have h1I : ¬ ((i : Int) < (s.size : Int)) := by omega
    clear hn h1
    go_enter Tryz.func35, Tryz.ntmps35
    go_wp2
    go_ret3
    exact ⟨rfl, rfl⟩
set_option maxHeartbeats 1000000 in
theorem parseTagName_yes (s : ByteArray) (i j0 : Nat) (w : World) (hs : s.size ≤ 1000) (hn : tnE s i = some j0) : Calls Tryz.prog 35 #[.string s, .int .i64 i] w fun e w' => e = .returned (.tuple #[.string (s.extract i j0), .int .i64 (j0 : Nat), .bool true]) ∧ w = w' := by
  have hb := get_bt s
  have hx : i < s.size ∧ ltB (bt s i) = true ∧ scan tcB s (i + 1) = j0 := by
    unfold tnE at hn
    split at hn
    · rename_i x
      refine ⟨x.1, x.2, ?_⟩
      rw [← scan_step (p := tcB) x.1 (by unfold tcB; rw [ld_of_lt x.2]; rfl)]
      exact Option.some.inj hn
    · cases hn
  obtain ⟨h1, h2, h3⟩ := hx
  have H3 := hide h3
  clear hn h3
  go_enter Tryz.func35, Tryz.ntmps35
  go_wp2_with (go_at_call 41; refine (isLetterM_any _ _).mono ?_; rintro e w' ⟨rfl, rfl⟩)
  clear h2
  go_loop [7] (fun jv => ∃ k : Nat, i + 1 ≤ k ∧ k ≤ s.size ∧ jv = .int .i64 k ∧ Hid (∀ j, i + 1 ≤ j → j < k → tcB (bt s j) = true)) (fun jv => s.size - (intOf jv).toNat)
  case atStart => exact ⟨i + 1, by omega, by omega, by go_num, fun j h h' => absurd h (by omega)⟩
  case round =>
    obtain ⟨k, hik, hk, rfl, hn⟩ := hrel
    by_cases hlt : k < s.size
    · by_cases hc : tcB (bt s k) = true
      · have hend : Hid (∀ j, i + 1 ≤ j → j < k + 1 → tcB (bt s j) = true) := by
          intro j a b
          by_cases e : j = k
          · subst e; exact hc
          · exact hn j a (by omega)
        have hc' : (ldB (bt s k) || decide (bt s k = 45)) = true := hc
        clear hc
        go_wp2_with (go_at_call 42; refine (isLDH_any _ _).mono ?_; rw [hc']; rintro e w' ⟨rfl, rfl⟩)
        go_round
        case rel => exact ⟨k + 1, by omega, by omega, by go_num, hend⟩
        case measure => simp [intOf]; omega
      · have hc : tcB (bt s k) = false := by simpa using hc
        have hE : Hid (j0 = k) := by unfold Hid; rw [← H3.out]; exact scan_eq hik hk (fun j a b => hn j a b) (.inr hc)
        have hc' : (ldB (bt s k) || decide (bt s k = 45)) = false := hc
        clear hc
        go_wp2_with (go_at_call 42; refine (isLDH_any _ _).mono ?_; rw [hc']; rintro e w' ⟨rfl, rfl⟩)
        go_ret3
        exact ⟨by rw [hE.out]; rfl, rfl⟩
    · obtain rfl : k = s.size := by omega
      have hE : Hid (j0 = s.size) := by unfold Hid; rw [← H3.out]; exact scan_eq hik hk (fun j a b => hn j a b) (.inl rfl)
      go_wp2
      go_ret3
      exact ⟨by rw [hE.out]; rfl, rfl⟩
/-- What the reading of a tag gives. -/
def TagRes (s : ByteArray) (i g : Nat) (o : Option Nat) (w : World) (e : Ending) (w' : World) : Prop :=
  match o with
  | none => e = .returned (.tuple #[.nilIface, .int .i64 0, .bool false]) ∧ Below g w w'
  | some E => ∃ h, e = .returned (.tuple #[.iface 74 (.pointer (some ⟨h, 0, none⟩)), .int .i64 (E : Nat), .bool true]) ∧ w'.cell? ⟨h, 0, none⟩ = some (.string (s.extract i E)) ∧ h < w'.heap.size ∧ Below g w w'
theorem tag_end {s : ByteArray} {i g : Nat} {o o' : Option Nat} {w w' : World} {e : Ending} (h : o = o') (h2 : TagRes s i g o' w e w') : TagRes s i g o w e w' := by rw [h]; exact h2
set_option maxHeartbeats 4000000 in
set_option maxRecDepth 100000 in
theorem parseOpen_any (s : ByteArray) (i g : Nat) (w : World) (hs : s.size ≤ 1000) (hi : i < s.size) (h60 : bt s i = 60) (hC : CorP g w) :
    Calls Tryz.prog 26 #[.pointer (some ⟨g, 0, none⟩), .string s, .int .i64 i] w (TagRes s i g ((tnE s (i + 1)).bind (otE s)) w) := by
  have hb := get_bt s
  have HC := hide hC
  obtain ⟨hg, ⟨c, hc⟩, hf⟩ := hC
  have c60 : (bt s i != 60) = false := by simp [h60]
  have hiI : ¬ ((s.size : Int) ≤ (i : Int)) := by omega
  clear h60
  cases hT : tnE s (i + 1) with
  | none =>
    have C : Hid (∀ wx : World, Calls Tryz.prog 35 #[.string s, .int .i64 ((i : Int) + 1)] wx fun e w' => e = .returned (.tuple #[.string ⟨#[]⟩, .int .i64 0, .bool false]) ∧ wx = w') := fun wx => parseTagName_no s (i + 1) wx hs (by omega) hT
    have HO : Hid ((none : Option Nat).bind (otE s) = none) := rfl
    clear hT
    go_enter Tryz.func26, Tryz.ntmps26
    go_wp2_with (go_at_call 35; refine (C.out _).mono ?_; rintro e w' ⟨rfl, rfl⟩)
    go_ret3
    exact tag_end HO.out ⟨rfl, Below.refl _ _⟩
  | some j0 =>
    have C : Hid (∀ wx : World, Calls Tryz.prog 35 #[.string s, .int .i64 ((i : Int) + 1)] wx fun e w' => e = .returned (.tuple #[.string (s.extract (i + 1) j0), .int .i64 (j0 : Nat), .bool true]) ∧ wx = w') := fun wx => parseTagName_yes s (i + 1) j0 wx hs hT
    have hj0 := (tn_le hT).2
    have hij := (tn_le hT).1
    clear hT
    go_enter Tryz.func26, Tryz.ntmps26
    go_upto_block 0 with (go_at_call 35; refine (C.out _).mono ?_; rintro e w' ⟨rfl, rfl⟩)
    go_cut [36] from 35 (fun _ wx => CorP g wx ∧ Below g w wx)
    case first =>
      go_wp2_with fail
      all_goals
        go_meet
        first | exact ⟨HC.out, Below.refl _ _⟩ | exact ⟨HC.out.set _, (Below.refl _ _).setCell (Nat.le_refl g) _⟩
    case rest =>
      obtain ⟨hC1, hB1⟩ := hcut
      clear C hg hc hf
      go_wp2
      go_loopg [10] (s.size + 1) (fun n jv wr => ∃ j : Nat, j ≤ s.size ∧ s.size - j < n ∧ i ≤ j ∧ jv = .int .i64 j ∧ Hid (otE s j = otE s j0) ∧ CorP g wr ∧ Below g w wr)
      case atStart => exact ⟨j0, hj0, by omega, by omega, rfl, rfl, hC1, hB1⟩
      case round =>
        clear hC1 hB1
        obtain ⟨j, hj, hjn, hij2, rfl, hR, hC, hBe⟩ := hrel
        cases gk with
        | zero => omega
        | succ n0 =>
          by_cases hlt : j < s.size
          case neg =>
            have HO : Hid ((some j0).bind (otE s) = none) := by unfold Hid; show otE s j0 = none; rw [← hR.out]; exact ot_out hj (.inl (by omega))
            have hI : (s.size : Int) ≤ (j : Int) := by omega
            clear hlt
            go_wp2
            try rw [Exit.noGoto_ret]
            go_ret3
            exact tag_end HO.out ⟨rfl, hBe⟩
          by_cases hok : okB (bt s j) = true
          case neg =>
            have hok : okB (bt s j) = false := by simpa using hok
            have HO : Hid ((some j0).bind (otE s) = none) := by unfold Hid; show otE s j0 = none; rw [← hR.out]; exact ot_out hj (.inr hok)
            have hI : ¬ ((s.size : Int) ≤ (j : Int)) := by omega
            unfold okB at hok
            have hok2 := of_decide_eq_false hok
            have c1 : (bt s j != 32) = true := by simp; omega
            have c2 : (bt s j != 9) = true := by simp; omega
            have c3 : (bt s j != 10) = true := by simp; omega
            have c4 : (bt s j != 47) = true := by simp; omega
            have c5 : (bt s j != 62) = true := by simp; omega
            clear hok hok2
            go_wp2
            try rw [Exit.noGoto_ret]
            go_ret3
            exact tag_end HO.out ⟨rfl, hBe⟩
          have hI : ¬ ((s.size : Int) ≤ (j : Int)) := by omega
          have hways : (bt s j != 32) = false ∨ ((bt s j != 32) = true ∧ (bt s j != 9) = false) ∨ ((bt s j != 32) = true ∧ (bt s j != 9) = true ∧ (bt s j != 10) = false) ∨ ((bt s j != 32) = true ∧ (bt s j != 9) = true ∧ (bt s j != 10) = true ∧ (bt s j != 47) = false) ∨ ((bt s j != 32) = true ∧ (bt s j != 9) = true ∧ (bt s j != 10) = true ∧ (bt s j != 47) = true ∧ (bt s j != 62) = false) := by
            unfold okB at hok
            have := of_decide_eq_true hok
            simp only [bne_iff_ne, ne_eq, bne_eq_false_iff_eq]
            omega
          have HW := hide hways
          have HOK := hide hok
          clear hways hok
          obtain ⟨a, ha⟩ : ∃ a, a = scan blB s j := ⟨_, rfl⟩
          have hja : j ≤ a := by rw [ha]; exact scan_ge _ _ hj
          have hau : a ≤ s.size := by rw [ha]; exact scan_le _ _ hj
          cases hE : atE s a with
          | some e2 =>
            obtain ⟨q1, q2, q3⟩ := ot_next hlt HOK.out (by rw [← ha]; exact hE)
            have hR2 : Hid (otE s e2 = otE s j0) := by unfold Hid; rw [← q1]; exact hR.out
            have PA : Hid (∀ wx : World, CorP g wx → Calls Tryz.prog 36 #[.pointer (some ⟨g, 0, none⟩), .string s, .int .i64 j] wx fun e w' => e = .returned (.tuple #[.string (s.extract a e2), .int .i64 (e2 : Nat), .bool true]) ∧ Below g wx w' ∧ CorP g w') := fun wx h => (parseAttr_any s j g wx hs hj h).mono fun e w' h => by
              unfold atV at h; rw [← ha, hE] at h; exact h
            clear hE ha q1 hR
            go_upto_region 11 with fail
            go_cut [77] from 44 to 88 (fun tv wx => tv = .bool false ∧ wx = wr)
            case first =>
              rcases HW.out with d1 | ⟨d1, d2⟩ | ⟨d1, d2, d3⟩ | ⟨d1, d2, d3, d4⟩ | ⟨d1, d2, d3, d4, d5⟩
              all_goals
                go_wp2_with fail
                go_meet
                exact ⟨rfl, rfl⟩
            case rest =>
              obtain ⟨rfl, rfl⟩ := hcut
              go_wp2_with (first | (go_at_call 36; refine (PA.out _ hC).mono ?_; rintro e w1 ⟨rfl, hb1, hC1⟩; obtain ⟨hg1, ⟨c1, hc1⟩, hf1⟩ := id hC1))
              go_roundg n0
              case measure => omega
              case rel => exact ⟨e2, q3, by omega, by omega, rfl, hR2, hC1, hBe.trans hb1⟩
          | none =>
            have HO : Hid ((some j0).bind (otE s) = finE s a) := by unfold Hid; show otE s j0 = _; rw [← hR.out, ot_end hj (by rw [← ha]; exact hE), ← ha]
            have PA : Hid (∀ wx : World, CorP g wx → Calls Tryz.prog 36 #[.pointer (some ⟨g, 0, none⟩), .string s, .int .i64 j] wx fun e w' => e = .returned (.tuple #[.string ⟨#[]⟩, .int .i64 0, .bool false]) ∧ Below g wx w' ∧ CorP g w') := fun wx h => (parseAttr_any s j g wx hs hj h).mono fun e w' h => by
              unfold atV at h; rw [← ha, hE] at h; exact h
            have SK : Hid (∀ wx : World, Calls Tryz.prog 37 #[.string s, .int .i64 j] wx fun e w' => e = .returned (.int .i64 (a : Nat)) ∧ wx = w') := fun wx => by rw [ha]; exact skipSpace_any s j wx (by simp only [maxLen]; omega) hj
            have hW := hide (fin_way s a)
            clear hE ha hR
            go_upto_region 11 with fail
            go_cut [77] from 44 to 88 (fun tv wx => tv = .bool false ∧ wx = wr)
            case first =>
              rcases HW.out with d1 | ⟨d1, d2⟩ | ⟨d1, d2, d3⟩ | ⟨d1, d2, d3, d4⟩ | ⟨d1, d2, d3, d4, d5⟩
              all_goals
                go_wp2_with fail
                go_meet
                exact ⟨rfl, rfl⟩
            case rest =>
              obtain ⟨rfl, rfl⟩ := hcut
              have hW := hW.out
              by_cases hne : j < a
              · have hneB : ((a : Int) != (j : Int)) = true := by simp; omega
                clear hne
                rcases hW with ⟨f1, f2, f3, f4, HF⟩ | ⟨f1, f2, f3, f4, HF⟩ | ⟨f1, f2, f3, HF⟩ | ⟨f1, f2, f3, HF⟩ | ⟨f1, f2, f3, HF⟩ | ⟨f1, HF⟩
                all_goals
                  go_wp2_with (first | (go_at_call 36; refine (PA.out _ hC).mono ?_; rintro e w1 ⟨rfl, hb1, hC1⟩; obtain ⟨hg1, ⟨c1, hc1⟩, hf1⟩ := id hC1) | (go_at_call 37; refine (SK.out _).mono ?_; rintro e w' ⟨rfl, rfl⟩))
                  try rw [Exit.noGoto_ret]
                  go_ret3
                  refine tag_end (HO.out.trans HF.out) ?_
                  first | exact ⟨rfl, (hBe.trans hb1).setCell (Nat.le_refl g) _⟩ | exact ⟨_, rfl, by first | rfl | simp | exact (World.cell?_alloc_at _ _ _ _ (by simp)).trans (by rfl), by first | simp | omega, ((hBe.trans hb1).setCell (Nat.le_refl g) _).alloc (by first | omega | (simp; omega)) _⟩
              · have hneB : ((a : Int) != (j : Int)) = false := by simp; omega
                clear hne
                rcases hW with ⟨f1, f2, f3, f4, HF⟩ | ⟨f1, f2, f3, f4, HF⟩ | ⟨f1, f2, f3, HF⟩ | ⟨f1, f2, f3, HF⟩ | ⟨f1, f2, f3, HF⟩ | ⟨f1, HF⟩
                all_goals
                  go_wp2_with (first | (go_at_call 36; refine (PA.out _ hC).mono ?_; rintro e w1 ⟨rfl, hb1, hC1⟩; obtain ⟨hg1, ⟨c1, hc1⟩, hf1⟩ := id hC1) | (go_at_call 37; refine (SK.out _).mono ?_; rintro e w' ⟨rfl, rfl⟩))
                  try rw [Exit.noGoto_ret]
                  go_ret3
                  refine tag_end (HO.out.trans HF.out) ?_
                  first | exact ⟨rfl, hBe.trans hb1⟩ | exact ⟨_, rfl, by first | rfl | simp, by first | simp | omega, (hBe.trans hb1).alloc (by first | omega | (simp; omega)) _⟩
end Go.Proofs.YtfmclgmcadiikaaGreat
