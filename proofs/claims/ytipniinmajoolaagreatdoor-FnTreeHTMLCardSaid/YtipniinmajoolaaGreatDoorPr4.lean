/- What the package's lists print as HTML. Conditions: sizes, as each states them. -/
import Derived.Test.YtipniinmajoolaaGreatDoorPr3
import Derived.Deep.Cut
import Derived.Deep.CutRange
namespace Go.Proofs.YtipniinmajoolaaGreatDoor
open Go.RowKit
def preL (ul : Bool) (s : Nat) : ByteArray := if ul = true then ⟨#[60, 117, 108, 62, 10]⟩ else (⟨#[60, 111, 108]⟩ : ByteArray) ++ startH s ++ (⟨#[62, 10]⟩ : ByteArray)
def postL (ul : Bool) : ByteArray := if ul = true then ⟨#[60, 47, 117, 108, 62, 10]⟩ else ⟨#[60, 47, 111, 108, 62, 10]⟩
theorem preL_line (ul : Bool) (s : Nat) (t : ByteArray) : LineEnd (t ++ preL ul s) := by
  unfold preL
  split
  · exact (EndLf.app t ⟨by decide, by decide⟩).lineEnd
  · rw [← ByteArray.append_assoc]
    exact (EndLf.app _ ⟨by decide, by decide⟩).lineEnd
theorem postL_size (ul : Bool) : (postL ul).size = 6 := by cases ul <;> rfl
theorem list_html (num : Int) (z : ByteArray) : lHTML num z = preL (decide (num < 0)) num.toNat ++ z ++ postL (decide (num < 0)) := by
  unfold lHTML preL postL
  by_cases h : num < 0
  · simp [h]
  · have e : ((num.toNat : Nat) : Int) = num := by omega
    simp [h, e]
set_option maxHeartbeats 2000000 in
set_option maxRecDepth 100000 in
theorem list_prints (w : World) (g : Nat) (p1 p2 bu : Int) (s : Nat) (lo ul : Bool) (ks : Value) (n : Nat) (vs : Nat → Value) (ys : Nat → ByteArray) (hs : s < 30) (hbu : ul = true ∧ (bu == 46) = false ∧ (bu == 41) = false ∨ ul = false ∧ ((bu == 46) = true ∨ (bu == 46) = false ∧ (bu == 41) = true))
    (ho : ObjAt w g #[.int .i64 p1, .int .i64 p2, .int .i32 bu, .int .i64 s, .bool lo, ks] 73) (hr : RowIs 46 w ks n vs)
    (hk : ∀ k, k < n → PrK w (vs k) false (ys k)) : PrB (fun tx => false = false → LineEnd tx) w g 94 (preL ul s ++ catY ys n ++ postL ul) := by
  intro w' B b tx hb hO hH hBs hsz hT
  obtain ⟨ao, cap, rfl, hn, hr⟩ := hr
  have HG := hide ho
  have HR := hide hr
  have HK := hide hk
  have HO := hide hO
  have HH := hide hH
  have HU := hide hbu
  have zz := postL_size ul
  simp only [ByteArray.size_append] at hsz
  have hc := (((HG.out.later HO.out hb (by decide)).cell 2).trans rfl : w'.cell? ⟨g, 2, none⟩ = some (.int .i32 bu))
  have HS := hide hsz
  have D1 := hide (itoa_any s hs)
  have hds := dig_le s
  clear hr hk hO hH ho hT hbu hsz
  rcases HU.out with ⟨rfl, h1, h2⟩ | ⟨rfl, h1⟩
  · have W1 := hide (wroteU B b tx (⟨#[60, 117, 108, 62, 10]⟩ : ByteArray) w' HH.out (by have := HS.out; have e : ((⟨#[60, 117, 108, 62, 10]⟩ : ByteArray)).size = 5 := rfl; omega) hBs)
    go_enter Tryz.func94, Tryz.ntmps94
    go_wp2_with (go_at_call 88; (with_reducible refine W1.out.mono ?_); rintro e w1 ⟨rfl, hw⟩; have HP : Hid (Wrote B b tx (preL true s) w' w1) := hide hw; have hc1 := (((HG.out.later (HO.out.trans HP.out.2.2) hb (by decide)).cell 5).trans rfl : w1.cell? ⟨g, 5, none⟩ = some (.slice ao n cap)); clear hw)
    have HO1 := hide (HO.out.trans HP.out.2.2)
    have HH1 := hide HP.out.1
    have hB1 : B ≤ w1.heap.size := Nat.le_trans hBs HP.out.2.1.size
    have HE : Hid (∀ m, m ≤ n → LineEnd (tx ++ preL true s ++ catY ys m)) := hide (fun m hm => cat_line (preL_line true s tx) (fun k hk => by obtain ⟨_, _, _, _, _, _, h, _⟩ := HK.out k hk; exact (h rfl).2) m hm)
    go_loopw [43] (fun kv wr => ∃ m : Nat, m ≤ n ∧ kv = .int .i64 m ∧ Hid (Wrote B b (tx ++ preL true s) (catY ys m) w1 wr)) (fun kv _ => n - (intOf kv).toNat)
    case atStart => exact ⟨0, by omega, rfl, hide (wrote_refl HH1.out)⟩
    case round =>
      clear hc hc1
      obtain ⟨m, hm, rfl, HW⟩ := hrel
      have hsz := HS.out
      by_cases hlt : m < n
      · have hltI : (m : Int) < (n : Int) := by omega
        obtain ⟨r, rfl, hrow⟩ := HR.out (by omega)
        have hcell := (hrow.later (HO1.out.trans HW.out.2.2) hb (by decide)).cell hlt
        obtain ⟨T, gk, f, hv, hD, _, _, hP⟩ := HK.out m hlt
        rw [hv] at hcell
        have hroom := catY_room ys hlt
        have CP := hide (hP wr B b (tx ++ preL true s ++ catY ys m) hb (HO1.out.trans HW.out.2.2) HW.out.1 (Nat.le_trans hB1 HW.out.2.1.size) (by simp only [ByteArray.size_append]; omega) (fun _ => HE.out m (by omega)))
        have HD := hide hD
        clear hv hD hP hrow hroom hsz
        go_wp2_with (with_reducible refine wpList_invoke ?_ (.tmp 47) (.tmp 48) "PrintHTML" 57 ?_ T gk f ?_ HD.out _ (ptr b) ?_ CP.out ?_; exact rfl; exact rfl; (simp [go_sem]); (simp [go_sem]); rintro w2 hW2; have HW2 := hide hW2; clear hW2)
        go_roundw
        case rel => exact ⟨m + 1, by omega, by go_num, hide (HW.out.trans HW2.out)⟩
        case measure => simp [intOf]; omega
      · obtain rfl : m = n := by omega
        have hltI : ¬ ((m : Int) < (m : Int)) := by omega
        clear hlt
        have hc2 := (((HG.out.later (HO1.out.trans HW.out.2.2) hb (by decide)).cell 2).trans rfl : wr.cell? ⟨g, 2, none⟩ = some (.int .i32 bu))
        have W3 := hide (wroteU B b (tx ++ preL true s ++ catY ys m) (⟨#[60, 47, 117, 108, 62, 10]⟩ : ByteArray) wr HW.out.1 (by simp only [ByteArray.size_append]; have e : ((⟨#[60, 47, 117, 108, 62, 10]⟩ : ByteArray)).size = 6 := rfl; omega) (Nat.le_trans hB1 HW.out.2.1.size))
        clear hsz
        go_wp2_with (go_at_call 88; (with_reducible refine W3.out.mono ?_); rintro e w3 ⟨rfl, hw3⟩; have HW3 := hide hw3; clear hw3)
        go_end0
        exact ⟨rfl, (HP.out.trans HW.out).trans (by rw [← ByteArray.append_assoc]; exact HW3.out)⟩
  · have zp : ((⟨#[60, 111, 108]⟩ : ByteArray)).size = 3 := rfl
    have zg : ((⟨#[62, 10]⟩ : ByteArray)).size = 2 := rfl
    have zs : (((⟨#[32, 115, 116, 97, 114, 116, 61, 34]⟩ : ByteArray) ++ dig s ++ (⟨#[34]⟩ : ByteArray))).size ≤ 11 := by
      simp only [ByteArray.size_append]
      have e1 : (⟨#[32, 115, 116, 97, 114, 116, 61, 34]⟩ : ByteArray).size = 8 := rfl
      have e2 : (⟨#[34]⟩ : ByteArray).size = 1 := rfl
      omega
    have W1 := hide (wroteU B b tx (⟨#[60, 111, 108]⟩ : ByteArray) w' HH.out (by have := HS.out; omega) hBs)
    by_cases e1 : s = 1
    · obtain rfl := e1
      rcases h1 with h1 | ⟨h1, h2⟩
      all_goals
        go_enter Tryz.func94, Tryz.ntmps94
        go_wp2_with (first | (go_at_call 88; (with_reducible refine W1.out.mono ?_); rintro e w0 ⟨rfl, hw⟩; have HP0 := hide hw; have hc0 := (((HG.out.later (HO.out.trans HP0.out.2.2) hb (by decide)).cell 3).trans rfl : w0.cell? ⟨g, 3, none⟩ = some (.int .i64 (1 : Nat))); have W2 := hide (wroteU B b (tx ++ (⟨#[60, 111, 108]⟩ : ByteArray)) (⟨#[62, 10]⟩ : ByteArray) w0 HP0.out.1 (by have := HS.out; simp only [ByteArray.size_append]; omega) (Nat.le_trans hBs HP0.out.2.1.size)); clear hw) | (go_at_call 88; (with_reducible refine W2.out.mono ?_); rintro e w1 ⟨rfl, hw⟩; have HP : Hid (Wrote B b tx (preL false 1) w' w1) := hide (by have q := HP0.out.trans hw; have e : preL false 1 = (⟨#[60, 111, 108]⟩ : ByteArray) ++ (⟨#[62, 10]⟩ : ByteArray) := (by decide +kernel); rw [e]; exact q); have hc1 := (((HG.out.later (HO.out.trans HP.out.2.2) hb (by decide)).cell 5).trans rfl : w1.cell? ⟨g, 5, none⟩ = some (.slice ao n cap)); clear hw))
        replace HP := HP

        have HO1 := hide (HO.out.trans HP.out.2.2)
        have HH1 := hide HP.out.1
        have hB1 : B ≤ w1.heap.size := Nat.le_trans hBs HP.out.2.1.size
        have HE : Hid (∀ m, m ≤ n → LineEnd (tx ++ preL false 1 ++ catY ys m)) := hide (fun m hm => cat_line (preL_line false 1 tx) (fun k hk => by obtain ⟨_, _, _, _, _, _, h, _⟩ := HK.out k hk; exact (h rfl).2) m hm)
        go_loopw [43] (fun kv wr => ∃ m : Nat, m ≤ n ∧ kv = .int .i64 m ∧ Hid (Wrote B b (tx ++ preL false 1) (catY ys m) w1 wr)) (fun kv _ => n - (intOf kv).toNat)
        case atStart => exact ⟨0, by omega, rfl, hide (wrote_refl HH1.out)⟩
        case round =>
          clear hc hc1
          obtain ⟨m, hm, rfl, HW⟩ := hrel
          have hsz := HS.out
          by_cases hlt : m < n
          · have hltI : (m : Int) < (n : Int) := by omega
            obtain ⟨r, rfl, hrow⟩ := HR.out (by omega)
            have hcell := (hrow.later (HO1.out.trans HW.out.2.2) hb (by decide)).cell hlt
            obtain ⟨T, gk, f, hv, hD, _, _, hP⟩ := HK.out m hlt
            rw [hv] at hcell
            have hroom := catY_room ys hlt
            have CP := hide (hP wr B b (tx ++ preL false 1 ++ catY ys m) hb (HO1.out.trans HW.out.2.2) HW.out.1 (Nat.le_trans hB1 HW.out.2.1.size) (by simp only [ByteArray.size_append]; omega) (fun _ => HE.out m (by omega)))
            have HD := hide hD
            clear hv hD hP hrow hroom hsz
            go_wp2_with (with_reducible refine wpList_invoke ?_ (.tmp 47) (.tmp 48) "PrintHTML" 57 ?_ T gk f ?_ HD.out _ (ptr b) ?_ CP.out ?_; exact rfl; exact rfl; (simp [go_sem]); (simp [go_sem]); rintro w2 hW2; have HW2 := hide hW2; clear hW2)
            go_roundw
            case rel => exact ⟨m + 1, by omega, by go_num, hide (HW.out.trans HW2.out)⟩
            case measure => simp [intOf]; omega
          · obtain rfl : m = n := by omega
            have hltI : ¬ ((m : Int) < (m : Int)) := by omega
            clear hlt
            have hc2 := (((HG.out.later (HO1.out.trans HW.out.2.2) hb (by decide)).cell 2).trans rfl : wr.cell? ⟨g, 2, none⟩ = some (.int .i32 bu))
            have W3 := hide (wroteU B b (tx ++ preL false 1 ++ catY ys m) (⟨#[60, 47, 111, 108, 62, 10]⟩ : ByteArray) wr HW.out.1 (by simp only [ByteArray.size_append]; have e : ((⟨#[60, 47, 111, 108, 62, 10]⟩ : ByteArray)).size = 6 := rfl; omega) (Nat.le_trans hB1 HW.out.2.1.size))
            clear hsz
            go_wp2_with (go_at_call 88; (with_reducible refine W3.out.mono ?_); rintro e w3 ⟨rfl, hw3⟩; have HW3 := hide hw3; clear hw3)
            go_end0
            exact ⟨rfl, (HP.out.trans HW.out).trans (by rw [← ByteArray.append_assoc]; exact HW3.out)⟩
    · have hs1 : ((s : Int) == 1) = false := by rw [beq_eq_false_iff_ne]; omega
      have est : startH s = ((⟨#[32, 115, 116, 97, 114, 116, 61, 34]⟩ : ByteArray) ++ dig s ++ (⟨#[34]⟩ : ByteArray)) := by
        unfold startH
        rw [if_neg (by omega), Int.toNat_natCast]
      obtain ⟨D, hD⟩ : ∃ D, D = dig s := ⟨_, rfl⟩
      rw [← hD] at D1 est zs hds
      have hs2 : ((s : Int) != 1) = true := by simp [bne, hs1]
      have HEST := hide est
      have HDG := hide hD
      clear est hD
      rcases h1 with h1 | ⟨h1, h2⟩
      all_goals
        go_enter Tryz.func94, Tryz.ntmps94
        go_wp2_with (first | (go_at_call 88; (with_reducible refine W1.out.mono ?_); rintro e w0 ⟨rfl, hw⟩; have HP0 := hide hw; have hc0 := (((HG.out.later (HO.out.trans HP0.out.2.2) hb (by decide)).cell 3).trans rfl : w0.cell? ⟨g, 3, none⟩ = some (.int .i64 s)); have W2 := hide (wroteU B b (tx ++ (⟨#[60, 111, 108]⟩ : ByteArray)) ((⟨#[32, 115, 116, 97, 114, 116, 61, 34]⟩ : ByteArray) ++ D ++ (⟨#[34]⟩ : ByteArray)) w0 HP0.out.1 (by have := HS.out; simp only [ByteArray.size_append] at zs ⊢; omega) (Nat.le_trans hBs HP0.out.2.1.size)); clear hw) | (go_at_call 96; refine (D1.out _).mono ?_; rintro e w8 ⟨rfl, rfl⟩) | (go_at_call 88; (with_reducible refine W2.out.mono ?_); rintro e w9 ⟨rfl, hw⟩; have HP9 := hide (HP0.out.trans hw); have W9 := hide (wroteU B b (tx ++ ((⟨#[60, 111, 108]⟩ : ByteArray) ++ ((⟨#[32, 115, 116, 97, 114, 116, 61, 34]⟩ : ByteArray) ++ D ++ (⟨#[34]⟩ : ByteArray)))) (⟨#[62, 10]⟩ : ByteArray) w9 HP9.out.1 (by have := HS.out; simp only [ByteArray.size_append] at zs ⊢; omega) (Nat.le_trans hBs HP9.out.2.1.size)); clear hw) | (go_at_call 88; (with_reducible refine W9.out.mono ?_); rintro e w1 ⟨rfl, hw⟩; have HP : Hid (Wrote B b tx (preL false s) w' w1) := hide (by have q := HP9.out.trans hw; have e : preL false s = ((⟨#[60, 111, 108]⟩ : ByteArray) ++ ((⟨#[32, 115, 116, 97, 114, 116, 61, 34]⟩ : ByteArray) ++ D ++ (⟨#[34]⟩ : ByteArray))) ++ (⟨#[62, 10]⟩ : ByteArray) := (by unfold preL; rw [if_neg Bool.false_ne_true, HEST.out]); rw [e]; exact q); have hc1 := (((HG.out.later (HO.out.trans HP.out.2.2) hb (by decide)).cell 5).trans rfl : w1.cell? ⟨g, 5, none⟩ = some (.slice ao n cap)); clear hw))

        have HO1 := hide (HO.out.trans HP.out.2.2)
        have HH1 := hide HP.out.1
        have hB1 : B ≤ w1.heap.size := Nat.le_trans hBs HP.out.2.1.size
        have HE : Hid (∀ m, m ≤ n → LineEnd (tx ++ preL false s ++ catY ys m)) := hide (fun m hm => cat_line (preL_line false s tx) (fun k hk => by obtain ⟨_, _, _, _, _, _, h, _⟩ := HK.out k hk; exact (h rfl).2) m hm)
        go_loopw [43] (fun kv wr => ∃ m : Nat, m ≤ n ∧ kv = .int .i64 m ∧ Hid (Wrote B b (tx ++ preL false s) (catY ys m) w1 wr)) (fun kv _ => n - (intOf kv).toNat)
        case atStart => exact ⟨0, by omega, rfl, hide (wrote_refl HH1.out)⟩
        case round =>
          clear hc hc1
          obtain ⟨m, hm, rfl, HW⟩ := hrel
          have hsz := HS.out
          by_cases hlt : m < n
          · have hltI : (m : Int) < (n : Int) := by omega
            obtain ⟨r, rfl, hrow⟩ := HR.out (by omega)
            have hcell := (hrow.later (HO1.out.trans HW.out.2.2) hb (by decide)).cell hlt
            obtain ⟨T, gk, f, hv, hD, _, _, hP⟩ := HK.out m hlt
            rw [hv] at hcell
            have hroom := catY_room ys hlt
            have CP := hide (hP wr B b (tx ++ preL false s ++ catY ys m) hb (HO1.out.trans HW.out.2.2) HW.out.1 (Nat.le_trans hB1 HW.out.2.1.size) (by simp only [ByteArray.size_append]; omega) (fun _ => HE.out m (by omega)))
            have HD := hide hD
            clear hv hD hP hrow hroom hsz
            go_wp2_with (with_reducible refine wpList_invoke ?_ (.tmp 47) (.tmp 48) "PrintHTML" 57 ?_ T gk f ?_ HD.out _ (ptr b) ?_ CP.out ?_; exact rfl; exact rfl; (simp [go_sem]); (simp [go_sem]); rintro w2 hW2; have HW2 := hide hW2; clear hW2)
            go_roundw
            case rel => exact ⟨m + 1, by omega, by go_num, hide (HW.out.trans HW2.out)⟩
            case measure => simp [intOf]; omega
          · obtain rfl : m = n := by omega
            have hltI : ¬ ((m : Int) < (m : Int)) := by omega
            clear hlt
            have hc2 := (((HG.out.later (HO1.out.trans HW.out.2.2) hb (by decide)).cell 2).trans rfl : wr.cell? ⟨g, 2, none⟩ = some (.int .i32 bu))
            have W3 := hide (wroteU B b (tx ++ preL false s ++ catY ys m) (⟨#[60, 47, 111, 108, 62, 10]⟩ : ByteArray) wr HW.out.1 (by simp only [ByteArray.size_append]; have e : ((⟨#[60, 47, 111, 108, 62, 10]⟩ : ByteArray)).size = 6 := rfl; omega) (Nat.le_trans hB1 HW.out.2.1.size))
            clear hsz
            go_wp2_with (go_at_call 88; (with_reducible refine W3.out.mono ?_); rintro e w3 ⟨rfl, hw3⟩; have HW3 := hide hw3; clear hw3)
            go_end0
            exact ⟨rfl, (HP.out.trans HW.out).trans (by rw [← ByteArray.append_assoc]; exact HW3.out)⟩
end Go.Proofs.YtipniinmajoolaaGreatDoor
