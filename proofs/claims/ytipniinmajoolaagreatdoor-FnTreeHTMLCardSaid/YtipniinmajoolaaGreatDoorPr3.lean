/- What the package's paragraphs, headings and items print as HTML. Conditions: sizes, as each states them. -/
import Derived.Test.YtipniinmajoolaaGreatDoorPr2
namespace Go.Proofs.YtipniinmajoolaaGreatDoor
open Go.RowKit
theorem dig_dec : ∀ n, n < 30 → (⟨(Lib.decDigits n).toArray⟩ : ByteArray) = dig n := by decide +kernel
theorem itoa_any (n : Nat) (hn : n < 30) (w : World) : Calls Tryz.prog 96 #[.int .i64 n] w fun e w' => e = .returned (.string (dig n)) ∧ w = w' :=
  (Tryz.strconv_Itoa_small n (by omega) w).mono fun e w' h => ⟨by rw [h.1, dig_dec n hn], h.2.symm⟩
theorem wroteGt (B b : Nat) (t : ByteArray) (w : World) (h : HoldsU B b t w) (hlen : t.size + 1 ≤ 140737488355328) (hBw : B ≤ w.heap.size) :
    Calls Tryz.prog 114 #[.pointer (some ⟨b, 0, none⟩), .int .u8 62] w fun e w' => e = .returned .nilIface ∧ Wrote B b t ⟨#[62]⟩ w w' :=
  writeU_byte B b t ⟨#[62]⟩ 0 w h (by decide) hlen hBw
set_option maxHeartbeats 1000000 in
set_option maxRecDepth 100000 in
theorem para_prints (w : World) (g : Nat) (p1 p2 : Int) (gt : Nat) (z : ByteArray) (ho : ObjAt w g #[.int .i64 p1, .int .i64 p2, ptr gt] 83) (hP : PrB (fun _ => True) w gt 115 z) :
    PrB (fun tx => false = false → LineEnd tx) w g 118 (pHTML z) := by
  intro w' B b tx hb hO hH hBs hsz _
  unfold pHTML at hsz ⊢
  have HG := hide ho
  have HP := hide hP
  have HO := hide hO
  simp only [ByteArray.size_append] at hsz
  have zp : (⟨#[60, 112, 62]⟩ : ByteArray).size = 3 := rfl
  have zq : (⟨#[60, 47, 112, 62, 10]⟩ : ByteArray).size = 5 := rfl
  have W1 := hide (wroteU B b tx ⟨#[60, 112, 62]⟩ w' hH (by omega) hBs)
  clear hO hH ho hP
  go_enter Tryz.func118, Tryz.ntmps118
  go_wp2_with (first | (go_at_call 88; (with_reducible refine W1.out.mono ?_); rintro e w1 ⟨rfl, hw1⟩; have HW1 := hide hw1; have hc := (((HG.out.later (HO.out.trans HW1.out.2.2) hb (by decide)).cell 2).trans rfl : w1.cell? ⟨g, 2, none⟩ = some (ptr gt)); have HT := hide (HP.out w1 B b (tx ++ ⟨#[60, 112, 62]⟩) hb (HO.out.trans HW1.out.2.2) HW1.out.1 (Nat.le_trans hBs HW1.out.2.1.size) (by simp only [ByteArray.size_append]; omega) trivial); clear hw1) | (go_at_call 115; (with_reducible refine HT.out.mono ?_); rintro e w2 ⟨rfl, hw2⟩; have HW2 := hide hw2; have W3 := hide (wroteU B b (tx ++ ⟨#[60, 112, 62]⟩ ++ z) ⟨#[60, 47, 112, 62, 10]⟩ w2 HW2.out.1 (by simp only [ByteArray.size_append]; omega) (Nat.le_trans hBs (Nat.le_trans HW1.out.2.1.size HW2.out.2.1.size))); clear hw2) | (go_at_call 88; (with_reducible refine W3.out.mono ?_); rintro e w3 ⟨rfl, hw3⟩; have HW3 := hide hw3; clear hw3))
  go_end0
  exact ⟨rfl, (HW1.out.trans HW2.out).trans (by rw [← ByteArray.append_assoc]; exact HW3.out)⟩
set_option maxHeartbeats 1000000 in
set_option maxRecDepth 100000 in
theorem heading_prints (w : World) (g : Nat) (p1 p2 : Int) (h gt : Nat) (z : ByteArray) (ho : ObjAt w g #[.int .i64 p1, .int .i64 p2, .int .i64 h, ptr gt, .string ⟨#[]⟩] 80) (h6 : h ≤ 6) (hP : PrB (fun _ => True) w gt 115 z) :
    PrB (fun tx => false = false → LineEnd tx) w g 110 (hHTML h z) := by
  intro w' B b tx hb hO hH hBs hsz _
  unfold hHTML at hsz ⊢
  have HG := hide ho
  have HP := hide hP
  have HO := hide hO
  have IT := hide (itoa_any h (by omega))
  have hds := dig_le h
  obtain ⟨D, hD⟩ : ∃ D, D = dig h := ⟨_, rfl⟩
  rw [← hD] at IT hds hsz ⊢
  simp only [ByteArray.size_append] at hsz
  have zp : (⟨#[60, 104]⟩ : ByteArray).size = 2 := rfl
  have zg : (⟨#[62]⟩ : ByteArray).size = 1 := rfl
  have zq : (⟨#[60, 47, 104]⟩ : ByteArray).size = 3 := rfl
  have zr : (⟨#[62, 10]⟩ : ByteArray).size = 2 := rfl
  have hc0 := (((HG.out.later HO.out hb (by decide)).cell 2).trans rfl : w'.cell? ⟨g, 2, none⟩ = some (.int .i64 h))
  have W1 := hide (wroteU B b tx ((⟨#[60, 104]⟩ : ByteArray) ++ D) w' hH (by simp only [ByteArray.size_append]; omega) hBs)
  clear hO hH ho hP hD
  go_enter Tryz.func110, Tryz.ntmps110
  go_wp2_with (first | (go_at_call 96; refine (IT.out _).mono ?_; rintro e w0 ⟨rfl, rfl⟩) | (go_at_call 88; (with_reducible refine W1.out.mono ?_); rintro e w1 ⟨rfl, hw1⟩; have HW1 := hide hw1; have hc := (((HG.out.later (HO.out.trans HW1.out.2.2) hb (by decide)).cell 4).trans rfl : w1.cell? ⟨g, 4, none⟩ = some (.string ⟨#[]⟩)); have hB1 := Nat.le_trans hBs HW1.out.2.1.size; have W2 := hide (wroteGt B b (tx ++ ((⟨#[60, 104]⟩ : ByteArray) ++ D)) w1 HW1.out.1 (by simp only [ByteArray.size_append]; omega) hB1); clear hw1) | (go_at_call 114; (with_reducible refine W2.out.mono ?_); rintro e w2 ⟨rfl, hw2⟩; have HW2 := hide (HW1.out.trans hw2); have HH2 := hide hw2.1; have hB2 := Nat.le_trans hB1 hw2.2.1.size; have hc2 := (((HG.out.later (HO.out.trans HW2.out.2.2) hb (by decide)).cell 3).trans rfl : w2.cell? ⟨g, 3, none⟩ = some (ptr gt)); have HT := hide (HP.out w2 B b (tx ++ ((⟨#[60, 104]⟩ : ByteArray) ++ D) ++ (⟨#[62]⟩ : ByteArray)) hb (HO.out.trans HW2.out.2.2) HH2.out hB2 (by simp only [ByteArray.size_append]; omega) trivial); clear hw2) | (go_at_call 115; (with_reducible refine HT.out.mono ?_); rintro e w3 ⟨rfl, hw3⟩; have HW3 := hide (HW2.out.trans (by rw [← ByteArray.append_assoc]; exact hw3)); have hc3 := (((HG.out.later (HO.out.trans HW3.out.2.2) hb (by decide)).cell 2).trans rfl : w3.cell? ⟨g, 2, none⟩ = some (.int .i64 h)); have W4 := hide (wroteU B b _ ((⟨#[60, 47, 104]⟩ : ByteArray) ++ D ++ (⟨#[62, 10]⟩ : ByteArray)) w3 HW3.out.1 (by simp only [ByteArray.size_append]; omega) (Nat.le_trans hB2 hw3.2.1.size)); clear hw3) | (go_at_call 88; (with_reducible refine W4.out.mono ?_); rintro e w4 ⟨rfl, hw4⟩; have HW4 := hide (HW3.out.trans hw4); clear hw4))
  go_end0
  exact ⟨rfl, HW4.out⟩
end Go.Proofs.YtipniinmajoolaaGreatDoor
