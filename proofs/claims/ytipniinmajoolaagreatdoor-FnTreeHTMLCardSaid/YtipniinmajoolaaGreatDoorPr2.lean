/- What the package's inlines and blocks print as HTML. Printed by gen_pr2.py. Conditions: sizes, as each states them. -/
import Derived.Test.YtipniinmajoolaaGreatDoorPr1
namespace Go.Proofs.YtipniinmajoolaaGreatDoor
open Go.RowKit
theorem cat_line {t : ByteArray} {ys : Nat → ByteArray} {n : Nat} (ht : LineEnd t) (hE : ∀ k, k < n → EndLf (ys k)) : ∀ m, m ≤ n → LineEnd (t ++ catY ys m)
  | 0, _ => by rw [catY, ByteArray.append_empty]; exact ht
  | m + 1, h => by
    rw [catY, ← ByteArray.append_assoc]
    exact ((hE m (by omega)).app _).lineEnd
theorem plain_prints (w : World) (g : Nat) (x : ByteArray) (ho : ObjAt w g #[.string x] 175) (hx : x.size ≤ 1000000) : PrB (fun _ => True) w g 185 (escF x x.size) := by
  intro w' B b tx hb hO hH hBs hsz _
  have ho' := ho.later hO hb (by decide)
  exact PlainHTML_any B b g tx x w' hH hBs hx (by omega) ((ho'.cell 0).trans rfl) ho'.lt
theorem code_prints (w : World) (g : Nat) (x : ByteArray) (ho : ObjAt w g #[.string x] 153) (hx : x.size ≤ 1000000) : PrB (fun _ => True) w g 149 (codeS x) := by
  intro w' B b tx hb hO hH hBs hsz _
  have ho' := ho.later hO hb (by decide)
  exact CodeHTML_any B b g tx x w' hH hBs hx (by omega) ((ho'.cell 0).trans rfl) ho'.lt
theorem soft_prints (w : World) (g : Nat) : PrB (fun _ => True) w g 141 ⟨#[10]⟩ := by
  intro w' B b tx hb hO hH hBs hsz _
  have z : (⟨#[10]⟩ : ByteArray).size = 1 := rfl
  have W1 := hide (wroteU B b tx ⟨#[10]⟩ w' hH (by omega) hBs)
  clear hH hO
  go_enter Tryz.func141, Tryz.ntmps141
  go_wp2_with (go_at_call 88; refine W1.out.mono ?_; rintro e w1 ⟨rfl, hw1⟩; have HW1 := hide hw1; clear hw1)
  go_end0
  exact ⟨rfl, HW1.out⟩
theorem break_prints (w : World) (g : Nat) : PrB (fun tx => false = false → LineEnd tx) w g 136 brHTML := by
  intro w' B b tx hb hO hH hBs hsz _
  have z : (brHTML : ByteArray).size = 7 := rfl
  have W1 := hide (wroteU B b tx brHTML w' hH (by omega) hBs)
  clear hH hO
  go_enter Tryz.func136, Tryz.ntmps136
  go_wp2_with (go_at_call 88; refine W1.out.mono ?_; rintro e w1 ⟨rfl, hw1⟩; have HW1 := hide hw1; clear hw1)
  go_end0
  exact ⟨rfl, HW1.out⟩
set_option maxHeartbeats 1000000 in
set_option maxRecDepth 100000 in
theorem emph_prints (w : World) (g : Nat) (mk : ByteArray) (ks : Value) (n : Nat) (vs : Nat → Value) (ys : Nat → ByteArray) (ho : ObjAt w g #[.string mk, ks] 156) (hr : RowIs 141 w ks n vs)
    (hk : ∀ k, k < n → PrI w (vs k) (ys k)) : PrB (fun _ => True) w g 153 ((⟨#[60, 101, 109, 62]⟩ : ByteArray) ++ catY ys n ++ (⟨#[60, 47, 101, 109, 62]⟩ : ByteArray)) := by
  intro w' B b tx hb hO hH hBs hsz hT
  obtain ⟨ao, cap, rfl, hn, hr⟩ := hr
  have HG := hide ho
  have HR := hide hr
  have HK := hide hk
  have HO := hide hO
  have HH := hide hH
  have HT := hide (hT)
  clear hr hk hO hH ho hT
  simp only [ByteArray.size_append] at hsz
  have zp : ((⟨#[60, 101, 109, 62]⟩ : ByteArray)).size = 4 := rfl
  have zq : ((⟨#[60, 47, 101, 109, 62]⟩ : ByteArray)).size = 5 := rfl
  have W1 := hide (wroteU B b tx (⟨#[60, 101, 109, 62]⟩ : ByteArray) w' HH.out (by omega) hBs)
  go_enter Tryz.func153, Tryz.ntmps153
  go_wp2_with (go_at_call 88; refine W1.out.mono ?_; rintro e w1 ⟨rfl, hw1⟩; have HW1 := hide hw1; have hc := (((HG.out.later (HO.out.trans HW1.out.2.2) hb (by decide)).cell 1).trans rfl : w1.cell? ⟨g, 1, none⟩ = some (.slice ao n cap)); clear hw1)
  have HO1 := hide (HO.out.trans HW1.out.2.2)
  have HH1 := hide HW1.out.1
  have hB1 : B ≤ w1.heap.size := Nat.le_trans hBs HW1.out.2.1.size
  go_loopw [13] (fun kv wr => ∃ m : Nat, m ≤ n ∧ kv = .int .i64 m ∧ Hid (Wrote B b (tx ++ (⟨#[60, 101, 109, 62]⟩ : ByteArray)) (catY ys m) w1 wr)) (fun kv _ => n - (intOf kv).toNat)
  case atStart => exact ⟨0, by omega, rfl, hide (wrote_refl HH1.out)⟩
  case round =>
    obtain ⟨m, hm, rfl, HW⟩ := hrel
    by_cases hlt : m < n
    · have hltI : (m : Int) < (n : Int) := by omega
      obtain ⟨r, rfl, hrow⟩ := HR.out (by omega)
      have hcell := (hrow.later (HO1.out.trans HW.out.2.2) hb (by decide)).cell hlt
      obtain ⟨T, gk, f, hv, hD, hP⟩ := HK.out m hlt
      rw [hv] at hcell
      have hroom := catY_room ys hlt
      have CP := hide (hP wr B b ((tx ++ (⟨#[60, 101, 109, 62]⟩ : ByteArray)) ++ catY ys m) hb (HO1.out.trans HW.out.2.2) HW.out.1 (Nat.le_trans hB1 HW.out.2.1.size) (by simp only [ByteArray.size_append]; omega) trivial)
      have HD := hide hD
      clear hv hD hP hrow hroom
      go_wp2_with (with_reducible refine wpList_invoke ?_ (.tmp 17) (.tmp 18) "PrintHTML" 57 ?_ T gk f ?_ HD.out _ (ptr b) ?_ CP.out ?_; exact rfl; exact rfl; (simp [go_sem]); (simp [go_sem]); rintro w2 hW2; have HW2 := hide hW2; clear hW2)
      go_roundw
      case rel => exact ⟨m + 1, by omega, by go_num, hide (HW.out.trans HW2.out)⟩
      case measure => simp [intOf]; omega
    · obtain rfl : m = n := by omega
      have hltI : ¬ ((m : Int) < (m : Int)) := by omega
      clear hlt
      have W3 := hide (wroteU B b ((tx ++ (⟨#[60, 101, 109, 62]⟩ : ByteArray)) ++ catY ys m) (⟨#[60, 47, 101, 109, 62]⟩ : ByteArray) wr HW.out.1 (by simp only [ByteArray.size_append]; omega) (Nat.le_trans hB1 HW.out.2.1.size))
      go_wp2_with (go_at_call 88; refine W3.out.mono ?_; rintro e w3 ⟨rfl, hw3⟩; have HW3 := hide hw3; clear hw3)
      go_end0
      exact ⟨rfl, (HW1.out.trans HW.out).trans (by rw [← ByteArray.append_assoc]; exact HW3.out)⟩
set_option maxHeartbeats 1000000 in
set_option maxRecDepth 100000 in
theorem strong_prints (w : World) (g : Nat) (mk : ByteArray) (ks : Value) (n : Nat) (vs : Nat → Value) (ys : Nat → ByteArray) (ho : ObjAt w g #[.string mk, ks] 158) (hr : RowIs 141 w ks n vs)
    (hk : ∀ k, k < n → PrI w (vs k) (ys k)) : PrB (fun _ => True) w g 157 ((⟨#[60, 115, 116, 114, 111, 110, 103, 62]⟩ : ByteArray) ++ catY ys n ++ (⟨#[60, 47, 115, 116, 114, 111, 110, 103, 62]⟩ : ByteArray)) := by
  intro w' B b tx hb hO hH hBs hsz hT
  obtain ⟨ao, cap, rfl, hn, hr⟩ := hr
  have HG := hide ho
  have HR := hide hr
  have HK := hide hk
  have HO := hide hO
  have HH := hide hH
  have HT := hide (hT)
  clear hr hk hO hH ho hT
  simp only [ByteArray.size_append] at hsz
  have zp : ((⟨#[60, 115, 116, 114, 111, 110, 103, 62]⟩ : ByteArray)).size = 8 := rfl
  have zq : ((⟨#[60, 47, 115, 116, 114, 111, 110, 103, 62]⟩ : ByteArray)).size = 9 := rfl
  have W1 := hide (wroteU B b tx (⟨#[60, 115, 116, 114, 111, 110, 103, 62]⟩ : ByteArray) w' HH.out (by omega) hBs)
  go_enter Tryz.func157, Tryz.ntmps157
  go_wp2_with (go_at_call 88; refine W1.out.mono ?_; rintro e w1 ⟨rfl, hw1⟩; have HW1 := hide hw1; have hc := (((HG.out.later (HO.out.trans HW1.out.2.2) hb (by decide)).cell 1).trans rfl : w1.cell? ⟨g, 1, none⟩ = some (.slice ao n cap)); clear hw1)
  have HO1 := hide (HO.out.trans HW1.out.2.2)
  have HH1 := hide HW1.out.1
  have hB1 : B ≤ w1.heap.size := Nat.le_trans hBs HW1.out.2.1.size
  go_loopw [13] (fun kv wr => ∃ m : Nat, m ≤ n ∧ kv = .int .i64 m ∧ Hid (Wrote B b (tx ++ (⟨#[60, 115, 116, 114, 111, 110, 103, 62]⟩ : ByteArray)) (catY ys m) w1 wr)) (fun kv _ => n - (intOf kv).toNat)
  case atStart => exact ⟨0, by omega, rfl, hide (wrote_refl HH1.out)⟩
  case round =>
    obtain ⟨m, hm, rfl, HW⟩ := hrel
    by_cases hlt : m < n
    · have hltI : (m : Int) < (n : Int) := by omega
      obtain ⟨r, rfl, hrow⟩ := HR.out (by omega)
      have hcell := (hrow.later (HO1.out.trans HW.out.2.2) hb (by decide)).cell hlt
      obtain ⟨T, gk, f, hv, hD, hP⟩ := HK.out m hlt
      rw [hv] at hcell
      have hroom := catY_room ys hlt
      have CP := hide (hP wr B b ((tx ++ (⟨#[60, 115, 116, 114, 111, 110, 103, 62]⟩ : ByteArray)) ++ catY ys m) hb (HO1.out.trans HW.out.2.2) HW.out.1 (Nat.le_trans hB1 HW.out.2.1.size) (by simp only [ByteArray.size_append]; omega) trivial)
      have HD := hide hD
      clear hv hD hP hrow hroom
      go_wp2_with (with_reducible refine wpList_invoke ?_ (.tmp 17) (.tmp 18) "PrintHTML" 57 ?_ T gk f ?_ HD.out _ (ptr b) ?_ CP.out ?_; exact rfl; exact rfl; (simp [go_sem]); (simp [go_sem]); rintro w2 hW2; have HW2 := hide hW2; clear hW2)
      go_roundw
      case rel => exact ⟨m + 1, by omega, by go_num, hide (HW.out.trans HW2.out)⟩
      case measure => simp [intOf]; omega
    · obtain rfl : m = n := by omega
      have hltI : ¬ ((m : Int) < (m : Int)) := by omega
      clear hlt
      have W3 := hide (wroteU B b ((tx ++ (⟨#[60, 115, 116, 114, 111, 110, 103, 62]⟩ : ByteArray)) ++ catY ys m) (⟨#[60, 47, 115, 116, 114, 111, 110, 103, 62]⟩ : ByteArray) wr HW.out.1 (by simp only [ByteArray.size_append]; omega) (Nat.le_trans hB1 HW.out.2.1.size))
      go_wp2_with (go_at_call 88; refine W3.out.mono ?_; rintro e w3 ⟨rfl, hw3⟩; have HW3 := hide hw3; clear hw3)
      go_end0
      exact ⟨rfl, (HW1.out.trans HW.out).trans (by rw [← ByteArray.append_assoc]; exact HW3.out)⟩
set_option maxHeartbeats 1000000 in
set_option maxRecDepth 100000 in
theorem quote_prints (w : World) (g : Nat) (p1 p2 : Int) (ks : Value) (n : Nat) (vs : Nat → Value) (ys : Nat → ByteArray) (ho : ObjAt w g #[.int .i64 p1, .int .i64 p2, ks] 70) (hr : RowIs 46 w ks n vs)
    (hk : ∀ k, k < n → PrK w (vs k) false (ys k)) : PrB (fun tx => false = false → LineEnd tx) w g 86 ((⟨#[60, 98, 108, 111, 99, 107, 113, 117, 111, 116, 101, 62, 10]⟩ : ByteArray) ++ catY ys n ++ (⟨#[60, 47, 98, 108, 111, 99, 107, 113, 117, 111, 116, 101, 62, 10]⟩ : ByteArray)) := by
  intro w' B b tx hb hO hH hBs hsz hT
  obtain ⟨ao, cap, rfl, hn, hr⟩ := hr
  have HG := hide ho
  have HR := hide hr
  have HK := hide hk
  have HO := hide hO
  have HH := hide hH
  have HT := hide (hT rfl)
  clear hr hk hO hH ho hT
  simp only [ByteArray.size_append] at hsz
  have zp : ((⟨#[60, 98, 108, 111, 99, 107, 113, 117, 111, 116, 101, 62, 10]⟩ : ByteArray)).size = 13 := rfl
  have zq : ((⟨#[60, 47, 98, 108, 111, 99, 107, 113, 117, 111, 116, 101, 62, 10]⟩ : ByteArray)).size = 14 := rfl
  have W1 := hide (wroteU B b tx (⟨#[60, 98, 108, 111, 99, 107, 113, 117, 111, 116, 101, 62, 10]⟩ : ByteArray) w' HH.out (by omega) hBs)
  go_enter Tryz.func86, Tryz.ntmps86
  go_wp2_with (go_at_call 88; refine W1.out.mono ?_; rintro e w1 ⟨rfl, hw1⟩; have HW1 := hide hw1; have hc := (((HG.out.later (HO.out.trans HW1.out.2.2) hb (by decide)).cell 2).trans rfl : w1.cell? ⟨g, 2, none⟩ = some (.slice ao n cap)); clear hw1)
  have HO1 := hide (HO.out.trans HW1.out.2.2)
  have HH1 := hide HW1.out.1
  have hB1 : B ≤ w1.heap.size := Nat.le_trans hBs HW1.out.2.1.size
  have HE : Hid (∀ m, m ≤ n → LineEnd ((tx ++ (⟨#[60, 98, 108, 111, 99, 107, 113, 117, 111, 116, 101, 62, 10]⟩ : ByteArray)) ++ catY ys m)) := hide (fun m hm => cat_line ((EndLf.app tx (by exact ⟨by decide, by decide⟩)).lineEnd) (fun k hk => by obtain ⟨_, _, _, _, _, _, h, _⟩ := HK.out k hk; exact (h rfl).2) m hm)
  go_loopw [13] (fun kv wr => ∃ m : Nat, m ≤ n ∧ kv = .int .i64 m ∧ Hid (Wrote B b (tx ++ (⟨#[60, 98, 108, 111, 99, 107, 113, 117, 111, 116, 101, 62, 10]⟩ : ByteArray)) (catY ys m) w1 wr)) (fun kv _ => n - (intOf kv).toNat)
  case atStart => exact ⟨0, by omega, rfl, hide (wrote_refl HH1.out)⟩
  case round =>
    obtain ⟨m, hm, rfl, HW⟩ := hrel
    by_cases hlt : m < n
    · have hltI : (m : Int) < (n : Int) := by omega
      obtain ⟨r, rfl, hrow⟩ := HR.out (by omega)
      have hcell := (hrow.later (HO1.out.trans HW.out.2.2) hb (by decide)).cell hlt
      obtain ⟨T, gk, f, hv, hD, _, _, hP⟩ := HK.out m hlt
      rw [hv] at hcell
      have hroom := catY_room ys hlt
      have CP := hide (hP wr B b ((tx ++ (⟨#[60, 98, 108, 111, 99, 107, 113, 117, 111, 116, 101, 62, 10]⟩ : ByteArray)) ++ catY ys m) hb (HO1.out.trans HW.out.2.2) HW.out.1 (Nat.le_trans hB1 HW.out.2.1.size) (by simp only [ByteArray.size_append]; omega) (fun _ => HE.out m (by omega)))
      have HD := hide hD
      clear hv hD hP hrow hroom
      go_wp2_with (with_reducible refine wpList_invoke ?_ (.tmp 17) (.tmp 18) "PrintHTML" 57 ?_ T gk f ?_ HD.out _ (ptr b) ?_ CP.out ?_; exact rfl; exact rfl; (simp [go_sem]); (simp [go_sem]); rintro w2 hW2; have HW2 := hide hW2; clear hW2)
      go_roundw
      case rel => exact ⟨m + 1, by omega, by go_num, hide (HW.out.trans HW2.out)⟩
      case measure => simp [intOf]; omega
    · obtain rfl : m = n := by omega
      have hltI : ¬ ((m : Int) < (m : Int)) := by omega
      clear hlt
      have W3 := hide (wroteU B b ((tx ++ (⟨#[60, 98, 108, 111, 99, 107, 113, 117, 111, 116, 101, 62, 10]⟩ : ByteArray)) ++ catY ys m) (⟨#[60, 47, 98, 108, 111, 99, 107, 113, 117, 111, 116, 101, 62, 10]⟩ : ByteArray) wr HW.out.1 (by simp only [ByteArray.size_append]; omega) (Nat.le_trans hB1 HW.out.2.1.size))
      go_wp2_with (go_at_call 88; refine W3.out.mono ?_; rintro e w3 ⟨rfl, hw3⟩; have HW3 := hide hw3; clear hw3)
      go_end0
      exact ⟨rfl, (HW1.out.trans HW.out).trans (by rw [← ByteArray.append_assoc]; exact HW3.out)⟩
set_option maxHeartbeats 1000000 in
set_option maxRecDepth 100000 in
theorem doc_prints (w : World) (g : Nat) (p1 p2 : Int) (lk : Value) (ks : Value) (n : Nat) (vs : Nat → Value) (ys : Nat → ByteArray) (ho : ObjAt w g #[.int .i64 p1, .int .i64 p2, ks, lk] 67) (hr : RowIs 46 w ks n vs)
    (hk : ∀ k, k < n → PrK w (vs k) false (ys k)) : PrB (fun tx => false = false → LineEnd tx) w g 84 (catY ys n) := by
  intro w' B b tx hb hO hH hBs hsz hT
  obtain ⟨ao, cap, rfl, hn, hr⟩ := hr
  have HG := hide ho
  have HR := hide hr
  have HK := hide hk
  have HO := hide hO
  have HH := hide hH
  have HT := hide (hT rfl)
  clear hr hk hO hH ho hT
  have hc := (((HG.out.later HO.out hb (by decide)).cell 2).trans rfl : w'.cell? ⟨g, 2, none⟩ = some (.slice ao n cap))
  go_enter Tryz.func84, Tryz.ntmps84
  go_wp2
  have HO1 := HO
  have HH1 := HH
  have hB1 := hBs
  have HE : Hid (∀ m, m ≤ n → LineEnd (tx ++ catY ys m)) := hide (fun m hm => cat_line (HT.out) (fun k hk => by obtain ⟨_, _, _, _, _, _, h, _⟩ := HK.out k hk; exact (h rfl).2) m hm)
  go_loopw [11] (fun kv wr => ∃ m : Nat, m ≤ n ∧ kv = .int .i64 m ∧ Hid (Wrote B b tx (catY ys m) w' wr)) (fun kv _ => n - (intOf kv).toNat)
  case atStart => exact ⟨0, by omega, rfl, hide (wrote_refl HH1.out)⟩
  case round =>
    obtain ⟨m, hm, rfl, HW⟩ := hrel
    by_cases hlt : m < n
    · have hltI : (m : Int) < (n : Int) := by omega
      obtain ⟨r, rfl, hrow⟩ := HR.out (by omega)
      have hcell := (hrow.later (HO1.out.trans HW.out.2.2) hb (by decide)).cell hlt
      obtain ⟨T, gk, f, hv, hD, _, _, hP⟩ := HK.out m hlt
      rw [hv] at hcell
      have hroom := catY_room ys hlt
      have CP := hide (hP wr B b (tx ++ catY ys m) hb (HO1.out.trans HW.out.2.2) HW.out.1 (Nat.le_trans hB1 HW.out.2.1.size) (by simp only [ByteArray.size_append]; omega) (fun _ => HE.out m (by omega)))
      have HD := hide hD
      clear hv hD hP hrow hroom
      go_wp2_with (with_reducible refine wpList_invoke ?_ (.tmp 15) (.tmp 16) "PrintHTML" 57 ?_ T gk f ?_ HD.out _ (ptr b) ?_ CP.out ?_; exact rfl; exact rfl; (simp [go_sem]); (simp [go_sem]); rintro w2 hW2; have HW2 := hide hW2; clear hW2)
      go_roundw
      case rel => exact ⟨m + 1, by omega, by go_num, hide (HW.out.trans HW2.out)⟩
      case measure => simp [intOf]; omega
    · obtain rfl : m = n := by omega
      have hltI : ¬ ((m : Int) < (m : Int)) := by omega
      clear hlt
      go_wp2
      go_end0
      exact ⟨rfl, HW.out⟩
end Go.Proofs.YtipniinmajoolaaGreatDoor
