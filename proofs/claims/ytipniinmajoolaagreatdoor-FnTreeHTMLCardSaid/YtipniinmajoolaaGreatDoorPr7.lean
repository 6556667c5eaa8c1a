/- What the package's blocks of code print as HTML. Conditions: sizes, as each states them. -/
import Derived.Test.YtipniinmajoolaaGreatDoorPr3
namespace Go.Proofs.YtipniinmajoolaaGreatDoor
open Go.RowKit
theorem quoteEscaper_any (w : World) : Calls Tryz.prog 112 #[] w fun e w' => e = .returned (.slice (some ⟨w.heap.size, 0, none⟩) 8 8) ∧ w.alloc (.cells pairsV 9) = w' := by
  go_enter Tryz.func112, Tryz.ntmps112
  go_wp2
  go_ret
  exact ⟨rfl, rfl⟩
theorem uniSpace_no (c : Int) (h1 : 97 ≤ c) (h2 : c ≤ 122) (w : World) : Calls Tryz.prog 123 #[.int .i32 c] w fun e w' => e = .returned (.bool false) ∧ w = w' := by
  have e0 : decide (c < 128) = true := by rw [decide_eq_true_iff]; omega
  have hl : c < 128 := by omega
  have e1 : (c == 32) = false := by rw [beq_eq_false_iff_ne]; omega
  have e2 : (c == 9) = false := by rw [beq_eq_false_iff_ne]; omega
  have e3 : (c == 12) = false := by rw [beq_eq_false_iff_ne]; omega
  have e4 : (c == 10) = false := by rw [beq_eq_false_iff_ne]; omega
  go_enter Tryz.func123, Tryz.ntmps123
  go_wp2
  go_ret
  exact ⟨rfl, rfl⟩
theorem Wrote.via {B b : Nat} {t y : ByteArray} {wr wb wc : World} (hb : Below wr.heap.size wr wb) (hB : B ≤ wr.heap.size) (h : Wrote B b t y wb wc) : Wrote B b t y wr wc :=
  ⟨h.1, (hb.mono hB).trans h.2.1, (others_old hb).trans h.2.2⟩
theorem HoldsU.old {B b : Nat} {t : ByteArray} {wr wb : World} (h : HoldsU B b t wr) (hb : Below wr.heap.size wr wb) : HoldsU B b t wb := Lib.IsBuffer.old (w := wr) h hb
theorem lenU (B b : Nat) (t : ByteArray) (w : World) (h : HoldsU B b t w) : Calls Tryz.prog 91 #[.pointer (some ⟨b, 0, none⟩)] w fun e w' => e = .returned (.int .i64 t.size) ∧ ∃ n, w' = w.drewN n := by
  have := Tryz.Buffer_Len B b _ w h
  rwa [holdsU_len] at this
theorem bytesU (B b : Nat) (t : ByteArray) (w : World) (h : HoldsU B b t w) (h0 : 0 < t.size) : Calls Tryz.prog 122 #[.pointer (some ⟨b, 0, none⟩)] w fun e w' => ∃ g cap : Nat, e = .returned (.slice (some ⟨g, 0, none⟩) t.size cap) ∧ w'.cell? ⟨g, t.size - 1, none⟩ = some (.int .u8 (bt t (t.size - 1))) ∧ ∃ n, w' = w.drewN n := by
  refine (Tryz.Buffer_Bytes B b _ w h).mono ?_
  rintro e w' ⟨v, rfl, hown, hn⟩
  rw [holdsU_len] at hown
  rcases hown.2 with ⟨_, h1⟩ | ⟨g, cap, cur, rfl, _, hg, hnc, _, hcs, ht⟩
  · omega
  · refine ⟨g, cap, rfl, ?_, hn⟩
    have hx : (Lib.byteCells t.data.toList)[t.size - 1]? = some (.int .u8 (bt t (t.size - 1))) := by
      have hl := bt_list t (k := t.size - 1) (by omega)
      have q1 := bt_nonneg t (t.size - 1)
      have q2 := bt_le t (t.size - 1)
      unfold Lib.byteCells
      rw [List.getElem?_map, hl]
      simp only [Option.map_some, UInt8.toNat_ofNat']
      congr 2
      omega
    rw [← ht, List.getElem?_take_of_lt (by omega)] at hx
    simp only [World.cell?, hg]
    simpa using hx
theorem Wrote.undrew {B b k : Nat} {t y : ByteArray} {w w1 : World} (h : Wrote B b t y (w.drewN k) w1) : Wrote B b t y w w1 :=
  ⟨h.1, ⟨h.2.1.os, h.2.1.tape, h.2.1.output, h.2.1.size, h.2.1.block⟩, h.2.2⟩
/-- The HTML of the lines of code. -/
def lineH (ls : Nat → ByteArray) (k : Nat) : ByteArray := escF (ls k) (ls k).size ++ (⟨#[10]⟩ : ByteArray)
set_option maxHeartbeats 4000000 in
set_option maxRecDepth 100000 in
theorem codeblock_prints (w : World) (g : Nat) (p1 p2 : Int) (ti : ByteArray) (ks : Value) (n : Nat) (ls : Nat → ByteArray) (ho : ObjAt w g #[.int .i64 p1, .int .i64 p2, .string ⟨#[96, 96, 96]⟩, .string ti, ks] 87) (hr : RowIs 9 w ks n (fun k => .string (ls k)))
    (hls : ∀ k, k < n → (ls k).size ≤ 1000000) (hti : ti.size ≤ 10) (hlt : ∀ k, k < ti.size → 97 ≤ bt ti k ∧ bt ti k ≤ 122) :
    PrB (fun tx => false = false → LineEnd tx) w g 120 ((⟨#[60, 112, 114, 101, 62, 60, 99, 111, 100, 101]⟩ : ByteArray) ++ langH ti ++ (⟨#[62]⟩ : ByteArray) ++ catY (lineH ls) n ++ (⟨#[60, 47, 99, 111, 100, 101, 62, 60, 47, 112, 114, 101, 62, 10]⟩ : ByteArray)) := by
  intro w' B b tx hb hO hH hBs hsz hT
  obtain ⟨ao, cap, rfl, hn, hr⟩ := hr
  have HG := hide ho
  have HR := hide hr
  have HLS := hide hls
  have HLT := hide hlt
  have HO := hide hO
  have HH := hide hH
  have hT2 := hT rfl
  simp only [ByteArray.size_append] at hsz
  have HS := hide hsz
  have z1 : ((⟨#[60, 112, 114, 101, 62, 60, 99, 111, 100, 101]⟩ : ByteArray)).size = 10 := rfl
  have z2 : ((⟨#[62]⟩ : ByteArray)).size = 1 := rfl
  have z3 : ((⟨#[60, 47, 99, 111, 100, 101, 62, 60, 47, 112, 114, 101, 62, 10]⟩ : ByteArray)).size = 14 := rfl
  have z4 : ((⟨#[32, 99, 108, 97, 115, 115, 61, 34, 108, 97, 110, 103, 117, 97, 103, 101, 45]⟩ : ByteArray)).size = 17 := rfl
  have z5 : ((⟨#[34]⟩ : ByteArray)).size = 1 := rfl
  have LEN := hide (fun (wx : World) (h : HoldsU B b tx wx) => lenU B b tx wx h)
  have W1 : Hid (∀ k : Nat, Calls Tryz.prog 88 #[.pointer (some ⟨b, 0, none⟩), .string (⟨#[60, 112, 114, 101, 62, 60, 99, 111, 100, 101]⟩ : ByteArray)] (w'.drewN k) fun e w1 => e = .returned (.tuple #[.int .i64 (⟨#[60, 112, 114, 101, 62, 60, 99, 111, 100, 101]⟩ : ByteArray).size, .nilIface]) ∧ Wrote B b tx (⟨#[60, 112, 114, 101, 62, 60, 99, 111, 100, 101]⟩ : ByteArray) w' w1) := hide (fun k => (wroteU B b tx (⟨#[60, 112, 114, 101, 62, 60, 99, 111, 100, 101]⟩ : ByteArray) (w'.drewN k) HH.out (by have := HS.out; omega) hBs).mono fun _ _ h => ⟨h.1, h.2.undrew⟩)
  clear hr hls hO hH ho hT hlt hsz
  have hL2 : Hid (langH ti = if ti.size = 0 then ⟨#[]⟩ else (⟨#[32, 99, 108, 97, 115, 115, 61, 34, 108, 97, 110, 103, 117, 97, 103, 101, 45]⟩ : ByteArray) ++ escF ti ti.size ++ (⟨#[34]⟩ : ByteArray)) := hide rfl
  have BYT := hide (fun (Z : Nat) (hZ : tx.size = Z + 1) (h10 : bt tx Z = 10) (wx : World) (h : HoldsU B b tx wx) => ((bytesU B b tx wx h (by omega)).mono (by rw [hZ, Nat.add_sub_cancel, h10]; exact fun _ _ h => h) : Calls Tryz.prog 122 #[.pointer (some ⟨b, 0, none⟩)] wx fun e w' => ∃ g cap : Nat, e = .returned (.slice (some ⟨g, 0, none⟩) (Z + 1) cap) ∧ w'.cell? ⟨g, Z, none⟩ = some (.int .u8 10) ∧ ∃ n, w' = wx.drewN n))
  have hcase : tx.size = 0 ∨ ∃ Z : Nat, tx.size = Z + 1 ∧ bt tx Z = 10 := by
    rcases hT2 with h | h
    · exact .inl h
    · by_cases e : tx.size = 0
      · exact .inl e
      · exact .inr ⟨tx.size - 1, by omega, h⟩
  clear hT2
  by_cases hz : ti.size = 0
  · obtain rfl : ti = ⟨#[]⟩ := ext_bt (by rw [hz]; rfl) (fun k hk => by omega)
    have hLe : langH ⟨#[]⟩ = ⟨#[]⟩ := by unfold langH; rw [if_pos (show (⟨#[]⟩ : ByteArray).size = 0 from rfl)]
    have ze : (⟨#[]⟩ : ByteArray).size = 0 := rfl
    rw [hLe] at HS ⊢
    clear hLe hL2
    rcases hcase with h0 | ⟨Z, hZ, h10⟩
    · have h0I : decide (((tx.size : Nat) : Int) > 0) = false := by rw [decide_eq_false_iff_not]; omega
      go_enter Tryz.func120, Tryz.ntmps120
      go_wp2_with (first | (go_at_call 91; refine (LEN.out _ HH.out).mono ?_; rintro e w0 ⟨rfl, n0, rfl⟩) | (go_at_call 88; (with_reducible refine (W1.out _).mono ?_); rintro e w1 ⟨rfl, hw⟩; have HP0 : Hid (Wrote B b tx (⟨#[60, 112, 114, 101, 62, 60, 99, 111, 100, 101]⟩ : ByteArray) w' w1) := hide hw; have hc3 := (((HG.out.later (HO.out.trans HP0.out.2.2) hb (by decide)).cell 3).trans rfl : w1.cell? ⟨g, 3, none⟩ = some (.string ⟨#[]⟩)); have HP1 : Hid (Wrote B b tx ((⟨#[60, 112, 114, 101, 62, 60, 99, 111, 100, 101]⟩ : ByteArray) ++ (⟨#[]⟩ : ByteArray)) w' w1) := hide (by rw [show (⟨#[60, 112, 114, 101, 62, 60, 99, 111, 100, 101]⟩ : ByteArray) ++ (⟨#[]⟩ : ByteArray) = (⟨#[60, 112, 114, 101, 62, 60, 99, 111, 100, 101]⟩ : ByteArray) from ByteArray.append_empty]; exact HP0.out); have W2 := hide (wroteU B b (tx ++ ((⟨#[60, 112, 114, 101, 62, 60, 99, 111, 100, 101]⟩ : ByteArray) ++ (⟨#[]⟩ : ByteArray))) (⟨#[62]⟩ : ByteArray) w1 HP1.out.1 (by have := HS.out; simp only [ByteArray.size_append] at this ⊢; omega) (Nat.le_trans hBs HP0.out.2.1.size)); clear hw) | (go_at_call 88; (with_reducible refine W2.out.mono ?_); rintro e w2 ⟨rfl, hw⟩; have HP : Hid (Wrote B b tx ((⟨#[60, 112, 114, 101, 62, 60, 99, 111, 100, 101]⟩ : ByteArray) ++ (⟨#[]⟩ : ByteArray) ++ (⟨#[62]⟩ : ByteArray)) w' w2) := hide (HP1.out.trans hw); have hc5 := (((HG.out.later (HO.out.trans HP.out.2.2) hb (by decide)).cell 2).trans rfl : w2.cell? ⟨g, 2, none⟩ = some (.string ⟨#[96, 96, 96]⟩)); have hc6 := (((HG.out.later (HO.out.trans HP.out.2.2) hb (by decide)).cell 4).trans rfl : w2.cell? ⟨g, 4, none⟩ = some (.slice ao n cap)); clear hw hc3))
      have hB2 : B ≤ w2.heap.size := Nat.le_trans hBs HP.out.2.1.size
      have HO2 := hide (HO.out.trans HP.out.2.2)
      have HH2 := hide HP.out.1
      go_loopw [101] (fun kv wr => ∃ m : Nat, m ≤ n ∧ kv = .int .i64 m ∧ Hid (Wrote B b (tx ++ ((⟨#[60, 112, 114, 101, 62, 60, 99, 111, 100, 101]⟩ : ByteArray) ++ (⟨#[]⟩ : ByteArray) ++ (⟨#[62]⟩ : ByteArray))) (catY (lineH ls) m) w2 wr)) (fun kv _ => n - (intOf kv).toNat)
      case atStart => exact ⟨0, by omega, rfl, hide (wrote_refl HH2.out)⟩
      case round =>
        clear hc5 hc6
        obtain ⟨m, hm, rfl, HW⟩ := hrel
        have hBr := hide (Nat.le_trans hB2 HW.out.2.1.size)
        by_cases hlt2 : m < n
        · have hltI : (m : Int) < (n : Int) := by omega
          obtain ⟨r, rfl, hrow⟩ := HR.out (by omega)
          have hcell := (hrow.later (HO2.out.trans HW.out.2.2) hb (by decide)).cell hlt2
          have hroom := catY_room (lineH ls) hlt2
          have HZ : Hid ((tx ++ ((⟨#[60, 112, 114, 101, 62, 60, 99, 111, 100, 101]⟩ : ByteArray) ++ (⟨#[]⟩ : ByteArray) ++ (⟨#[62]⟩ : ByteArray)) ++ catY (lineH ls) m ++ escF (ls m) (ls m).size).size + (⟨#[10]⟩ : ByteArray).size ≤ 140737488355328) := hide (by
            have q2 := HS.out
            have hlz : (lineH ls m).size = (escF (ls m) (ls m).size).size + 1 := ByteArray.size_append
            have hl1 : (⟨#[10]⟩ : ByteArray).size = 1 := rfl
            simp only [ByteArray.size_append] at q2 ⊢
            omega)
          have R := hide (replaceU_any wr.heap.size (ls m) (wr.alloc (.cells pairsV 9)) (pairs_new wr) (HLS.out m hlt2))
          have hBa : Hid (Below wr.heap.size wr (wr.alloc (.cells pairsV 9))) := hide ((Below.refl _ _).alloc (Nat.le_refl _) _)
          obtain ⟨L, hL⟩ : ∃ L, L = ls m := ⟨_, rfl⟩
          obtain ⟨EL, hEL⟩ : ∃ EL, EL = escF L L.size := ⟨_, rfl⟩
          rw [← hL] at R HZ hcell
          rw [← hEL] at R HZ
          have HL := hide hL
          have HE := hide hEL
          clear hroom hrow hL hEL
          go_wp2_with (first | (go_at_call 125; refine (htmlEscaper_any _).mono ?_; rintro e wa ⟨rfl, rfl⟩) | (go_at_call 113; (with_reducible refine R.out.mono ?_); rintro e wb ⟨rfl, hbb⟩; have HBB := hide (hBa.out.trans (hbb.mono hBa.out.size)); have W7 := hide (wroteU B b (tx ++ ((⟨#[60, 112, 114, 101, 62, 60, 99, 111, 100, 101]⟩ : ByteArray) ++ (⟨#[]⟩ : ByteArray) ++ (⟨#[62]⟩ : ByteArray)) ++ catY (lineH ls) m) EL wb (HW.out.1.old HBB.out) (by have := HZ.out; simp only [ByteArray.size_append] at this ⊢; omega) (Nat.le_trans hBr.out HBB.out.size)); clear hbb) | (go_at_call 88; (with_reducible refine W7.out.mono ?_); rintro e wc ⟨rfl, hw⟩; have HW7 := hide (Wrote.via HBB.out hBr.out hw); have W8 := hide (wroteU B b (tx ++ ((⟨#[60, 112, 114, 101, 62, 60, 99, 111, 100, 101]⟩ : ByteArray) ++ (⟨#[]⟩ : ByteArray) ++ (⟨#[62]⟩ : ByteArray)) ++ catY (lineH ls) m ++ EL) (⟨#[10]⟩ : ByteArray) wc HW7.out.1 HZ.out (Nat.le_trans hBr.out HW7.out.2.1.size)); clear hw) | (go_at_call 88; (with_reducible refine W8.out.mono ?_); rintro e wd ⟨rfl, hw⟩; have HW8 := hide hw; clear hw))
          go_roundw
          case rel => exact ⟨m + 1, by omega, by go_num, hide (by rw [catY, show lineH ls m = EL ++ (⟨#[10]⟩ : ByteArray) by (unfold lineH; rw [← HL.out, ← HE.out])]; exact HW.out.trans (HW7.out.trans HW8.out))⟩
          case measure => simp [intOf]; omega
        · obtain rfl : m = n := by omega
          have hltI : ¬ ((m : Int) < (m : Int)) := by omega
          clear hlt2
          have W3 := hide (wroteU B b (tx ++ ((⟨#[60, 112, 114, 101, 62, 60, 99, 111, 100, 101]⟩ : ByteArray) ++ (⟨#[]⟩ : ByteArray) ++ (⟨#[62]⟩ : ByteArray)) ++ catY (lineH ls) m) (⟨#[60, 47, 99, 111, 100, 101, 62, 60, 47, 112, 114, 101, 62, 10]⟩ : ByteArray) wr HW.out.1 (by have := HS.out; simp only [ByteArray.size_append] at this ⊢; omega) hBr.out)
          go_wp2_with (go_at_call 88; (with_reducible refine W3.out.mono ?_); rintro e w5 ⟨rfl, hw3⟩; have HW3 := hide hw3; clear hw3)
          go_end0
          exact ⟨rfl, (HP.out.trans HW.out).trans (by rw [← ByteArray.append_assoc]; exact HW3.out)⟩
    · have BY2 := hide (BYT.out Z hZ h10)
      have hZI : (tx.size : Int) = (Z : Int) + 1 := by omega
      have hZb : Z + 1 ≤ 100000000000000 := by have := HS.out; omega
      have LEN2 : Hid (∀ wx, HoldsU B b tx wx → Calls Tryz.prog 91 #[.pointer (some ⟨b, 0, none⟩)] wx fun e w' => e = .returned (.int .i64 ((Z : Int) + 1)) ∧ ∃ n, w' = wx.drewN n) := hide (by rw [← hZI]; exact LEN.out)
      have hgt : decide ((Z : Int) + 1 > 0) = true := by rw [decide_eq_true_iff]; omega
      clear hZI h10 BYT LEN
      go_enter Tryz.func120, Tryz.ntmps120
      go_wp2_with (first | (go_at_call 122; refine (BY2.out _ (HoldsU.drewN HH.out _)).mono ?_; rintro e w8 ⟨g8, cap8, rfl, hc8, n8, rfl⟩; have hc9 : ∀ k, (w'.drewN k).cell? ⟨g8, Z, none⟩ = some (.int .u8 10) := fun _ => hc8; have hc7 : w'.cell? ⟨g8, Z, none⟩ = some (.int .u8 10) := hc8; clear hc8) | (go_at_call 91; first | (refine (LEN2.out _ HH.out).mono ?_; rintro e w0 ⟨rfl, n0, rfl⟩) | (refine (LEN2.out _ (HoldsU.drewN HH.out _)).mono ?_; rintro e w9 ⟨rfl, n9, rfl⟩)) | (go_at_call 88; (with_reducible refine (W1.out _).mono ?_); rintro e w1 ⟨rfl, hw⟩; have HP0 : Hid (Wrote B b tx (⟨#[60, 112, 114, 101, 62, 60, 99, 111, 100, 101]⟩ : ByteArray) w' w1) := hide hw; have hc3 := (((HG.out.later (HO.out.trans HP0.out.2.2) hb (by decide)).cell 3).trans rfl : w1.cell? ⟨g, 3, none⟩ = some (.string ⟨#[]⟩)); have HP1 : Hid (Wrote B b tx ((⟨#[60, 112, 114, 101, 62, 60, 99, 111, 100, 101]⟩ : ByteArray) ++ (⟨#[]⟩ : ByteArray)) w' w1) := hide (by rw [show (⟨#[60, 112, 114, 101, 62, 60, 99, 111, 100, 101]⟩ : ByteArray) ++ (⟨#[]⟩ : ByteArray) = (⟨#[60, 112, 114, 101, 62, 60, 99, 111, 100, 101]⟩ : ByteArray) from ByteArray.append_empty]; exact HP0.out); have W2 := hide (wroteU B b (tx ++ ((⟨#[60, 112, 114, 101, 62, 60, 99, 111, 100, 101]⟩ : ByteArray) ++ (⟨#[]⟩ : ByteArray))) (⟨#[62]⟩ : ByteArray) w1 HP1.out.1 (by have := HS.out; simp only [ByteArray.size_append] at this ⊢; omega) (Nat.le_trans hBs HP0.out.2.1.size)); clear hw) | (go_at_call 88; (with_reducible refine W2.out.mono ?_); rintro e w2 ⟨rfl, hw⟩; have HP : Hid (Wrote B b tx ((⟨#[60, 112, 114, 101, 62, 60, 99, 111, 100, 101]⟩ : ByteArray) ++ (⟨#[]⟩ : ByteArray) ++ (⟨#[62]⟩ : ByteArray)) w' w2) := hide (HP1.out.trans hw); have hc5 := (((HG.out.later (HO.out.trans HP.out.2.2) hb (by decide)).cell 2).trans rfl : w2.cell? ⟨g, 2, none⟩ = some (.string ⟨#[96, 96, 96]⟩)); have hc6 := (((HG.out.later (HO.out.trans HP.out.2.2) hb (by decide)).cell 4).trans rfl : w2.cell? ⟨g, 4, none⟩ = some (.slice ao n cap)); clear hw hc3))
      have hB2 : B ≤ w2.heap.size := Nat.le_trans hBs HP.out.2.1.size
      have HO2 := hide (HO.out.trans HP.out.2.2)
      have HH2 := hide HP.out.1
      go_loopw [101] (fun kv wr => ∃ m : Nat, m ≤ n ∧ kv = .int .i64 m ∧ Hid (Wrote B b (tx ++ ((⟨#[60, 112, 114, 101, 62, 60, 99, 111, 100, 101]⟩ : ByteArray) ++ (⟨#[]⟩ : ByteArray) ++ (⟨#[62]⟩ : ByteArray))) (catY (lineH ls) m) w2 wr)) (fun kv _ => n - (intOf kv).toNat)
      case atStart => exact ⟨0, by omega, rfl, hide (wrote_refl HH2.out)⟩
      case round =>
        clear hc5 hc6
        obtain ⟨m, hm, rfl, HW⟩ := hrel
        have hBr := hide (Nat.le_trans hB2 HW.out.2.1.size)
        by_cases hlt2 : m < n
        · have hltI : (m : Int) < (n : Int) := by omega
          obtain ⟨r, rfl, hrow⟩ := HR.out (by omega)
          have hcell := (hrow.later (HO2.out.trans HW.out.2.2) hb (by decide)).cell hlt2
          have hroom := catY_room (lineH ls) hlt2
          have HZ : Hid ((tx ++ ((⟨#[60, 112, 114, 101, 62, 60, 99, 111, 100, 101]⟩ : ByteArray) ++ (⟨#[]⟩ : ByteArray) ++ (⟨#[62]⟩ : ByteArray)) ++ catY (lineH ls) m ++ escF (ls m) (ls m).size).size + (⟨#[10]⟩ : ByteArray).size ≤ 140737488355328) := hide (by
            have q2 := HS.out
            have hlz : (lineH ls m).size = (escF (ls m) (ls m).size).size + 1 := ByteArray.size_append
            have hl1 : (⟨#[10]⟩ : ByteArray).size = 1 := rfl
            simp only [ByteArray.size_append] at q2 ⊢
            omega)
          have R := hide (replaceU_any wr.heap.size (ls m) (wr.alloc (.cells pairsV 9)) (pairs_new wr) (HLS.out m hlt2))
          have hBa : Hid (Below wr.heap.size wr (wr.alloc (.cells pairsV 9))) := hide ((Below.refl _ _).alloc (Nat.le_refl _) _)
          obtain ⟨L, hL⟩ : ∃ L, L = ls m := ⟨_, rfl⟩
          obtain ⟨EL, hEL⟩ : ∃ EL, EL = escF L L.size := ⟨_, rfl⟩
          rw [← hL] at R HZ hcell
          rw [← hEL] at R HZ
          have HL := hide hL
          have HE := hide hEL
          clear hroom hrow hL hEL
          go_wp2_with (first | (go_at_call 125; refine (htmlEscaper_any _).mono ?_; rintro e wa ⟨rfl, rfl⟩) | (go_at_call 113; (with_reducible refine R.out.mono ?_); rintro e wb ⟨rfl, hbb⟩; have HBB := hide (hBa.out.trans (hbb.mono hBa.out.size)); have W7 := hide (wroteU B b (tx ++ ((⟨#[60, 112, 114, 101, 62, 60, 99, 111, 100, 101]⟩ : ByteArray) ++ (⟨#[]⟩ : ByteArray) ++ (⟨#[62]⟩ : ByteArray)) ++ catY (lineH ls) m) EL wb (HW.out.1.old HBB.out) (by have := HZ.out; simp only [ByteArray.size_append] at this ⊢; omega) (Nat.le_trans hBr.out HBB.out.size)); clear hbb) | (go_at_call 88; (with_reducible refine W7.out.mono ?_); rintro e wc ⟨rfl, hw⟩; have HW7 := hide (Wrote.via HBB.out hBr.out hw); have W8 := hide (wroteU B b (tx ++ ((⟨#[60, 112, 114, 101, 62, 60, 99, 111, 100, 101]⟩ : ByteArray) ++ (⟨#[]⟩ : ByteArray) ++ (⟨#[62]⟩ : ByteArray)) ++ catY (lineH ls) m ++ EL) (⟨#[10]⟩ : ByteArray) wc HW7.out.1 HZ.out (Nat.le_trans hBr.out HW7.out.2.1.size)); clear hw) | (go_at_call 88; (with_reducible refine W8.out.mono ?_); rintro e wd ⟨rfl, hw⟩; have HW8 := hide hw; clear hw))
          go_roundw
          case rel => exact ⟨m + 1, by omega, by go_num, hide (by rw [catY, show lineH ls m = EL ++ (⟨#[10]⟩ : ByteArray) by (unfold lineH; rw [← HL.out, ← HE.out])]; exact HW.out.trans (HW7.out.trans HW8.out))⟩
          case measure => simp [intOf]; omega
        · obtain rfl : m = n := by omega
          have hltI : ¬ ((m : Int) < (m : Int)) := by omega
          clear hlt2
          have W3 := hide (wroteU B b (tx ++ ((⟨#[60, 112, 114, 101, 62, 60, 99, 111, 100, 101]⟩ : ByteArray) ++ (⟨#[]⟩ : ByteArray) ++ (⟨#[62]⟩ : ByteArray)) ++ catY (lineH ls) m) (⟨#[60, 47, 99, 111, 100, 101, 62, 60, 47, 112, 114, 101, 62, 10]⟩ : ByteArray) wr HW.out.1 (by have := HS.out; simp only [ByteArray.size_append] at this ⊢; omega) hBr.out)
          go_wp2_with (go_at_call 88; (with_reducible refine W3.out.mono ?_); rintro e w5 ⟨rfl, hw3⟩; have HW3 := hide hw3; clear hw3)
          go_end0
          exact ⟨rfl, (HP.out.trans HW.out).trans (by rw [← ByteArray.append_assoc]; exact HW3.out)⟩
  · have hne := nonempty_of (s := ti) (by omega)
    have hez := esc_le ti ti.size
    obtain ⟨E, hE⟩ : ∃ E, E = escF ti ti.size := ⟨_, rfl⟩
    rw [← hE] at hez
    have hLa : langH ti = (⟨#[32, 99, 108, 97, 115, 115, 61, 34, 108, 97, 110, 103, 117, 97, 103, 101, 45]⟩ : ByteArray) ++ E ++ (⟨#[34]⟩ : ByteArray) := by rw [hL2.out, if_neg hz, hE]
    rw [hLa] at HS ⊢
    have HEE := hide hE
    clear hLa hE hL2
    rcases hcase with h0 | ⟨Z, hZ, h10⟩
    · have h0I : decide (((tx.size : Nat) : Int) > 0) = false := by rw [decide_eq_false_iff_not]; omega
      go_enter Tryz.func120, Tryz.ntmps120
      go_wp2_with (first | (go_at_call 91; refine (LEN.out _ HH.out).mono ?_; rintro e w0 ⟨rfl, n0, rfl⟩) | (go_at_call 88; (with_reducible refine (W1.out _).mono ?_); rintro e w1 ⟨rfl, hw⟩; have HP0 : Hid (Wrote B b tx (⟨#[60, 112, 114, 101, 62, 60, 99, 111, 100, 101]⟩ : ByteArray) w' w1) := hide hw; have hc3 := (((HG.out.later (HO.out.trans HP0.out.2.2) hb (by decide)).cell 3).trans rfl : w1.cell? ⟨g, 3, none⟩ = some (.string ti)); have HBW : B ≤ w1.heap.size := Nat.le_trans hBs HP0.out.2.1.size; have HI := hide HBW; clear hw))
      go_loopw [4] (fun lv wr => ∃ pos : Nat, pos ≤ ti.size ∧ lv = .string ti ∧ wr = w1.iter ti pos) (fun _ wr => ti.size - wr.iterPos w1.heap.size)
      case atStart => exact ⟨0, Nat.zero_le _, rfl, rfl⟩
      case round =>
        obtain ⟨pos, hps, rfl, rfl⟩ := hrel
        have hmu : ∀ q, (w1.iter ti q).iterPos w1.heap.size = q := fun q => by simp [World.iterPos, World.iter_heap]
        have HMU := hide hmu
        clear hmu
        by_cases hp : pos < ti.size
        · have hbt := get_bt ti pos hp
          have hu := HLT.out pos hp
          rw [← hbt] at hu
          have hnext := fun ty => run_next_ascii (P := Tryz.prog) w1 ti pos ty hp (by omega)
          have US := hide (fun wx => uniSpace_no ((ti[pos]'hp).toNat : Int) hu.1 hu.2 wx)
          obtain ⟨C, hC⟩ : ∃ C, C = ((ti[pos]'hp).toNat : Int) := ⟨_, rfl⟩
          rw [← hC] at US
          simp only [← hC] at hnext
          clear hbt hu hC
          go_wp2_with (go_at_call 123; (with_reducible refine (US.out _).mono ?_); rintro e wq ⟨rfl, rfl⟩)
          go_roundw
          case rel => exact ⟨pos + 1, by omega, rfl, rfl⟩
          case measure => rw [HMU.out, HMU.out]; omega
        · have hnext := fun ty => run_next_end (P := Tryz.prog) w1 ti pos ty hp
          have R := hide (replaceU_any (w1.iter ti pos).heap.size ti ((w1.iter ti pos).alloc (.cells pairsV 9)) (pairs_new _) (by omega))
          have hBa : Hid (Below w1.heap.size w1 ((w1.iter ti pos).alloc (.cells pairsV 9))) := hide (((Below.refl _ w1).alloc (Nat.le_refl _) (.stringIter ti pos)).alloc (by rw [World.size_alloc']; omega) _)
          rw [← HEE.out] at R
          go_wp2_with (first | (go_at_call 112; refine (quoteEscaper_any _).mono ?_; rintro e wa ⟨rfl, rfl⟩) | (go_at_call 113; (with_reducible refine R.out.mono ?_); rintro e wb ⟨rfl, hbb⟩; have HBB := hide (hBa.out.trans (hbb.mono hBa.out.size)); have WL := hide (wroteU B b (tx ++ (⟨#[60, 112, 114, 101, 62, 60, 99, 111, 100, 101]⟩ : ByteArray)) ((⟨#[32, 99, 108, 97, 115, 115, 61, 34, 108, 97, 110, 103, 117, 97, 103, 101, 45]⟩ : ByteArray) ++ E ++ (⟨#[34]⟩ : ByteArray)) wb (HP0.out.1.old HBB.out) (by have := HS.out; simp only [ByteArray.size_append] at this ⊢; omega) (Nat.le_trans HBW HBB.out.size)); clear hbb) | (go_at_call 88; (with_reducible refine WL.out.mono ?_); rintro e wl ⟨rfl, hw⟩; have HP1 : Hid (Wrote B b tx ((⟨#[60, 112, 114, 101, 62, 60, 99, 111, 100, 101]⟩ : ByteArray) ++ ((⟨#[32, 99, 108, 97, 115, 115, 61, 34, 108, 97, 110, 103, 117, 97, 103, 101, 45]⟩ : ByteArray) ++ E ++ (⟨#[34]⟩ : ByteArray))) w' wl) := hide (HP0.out.trans (Wrote.via HBB.out HBW hw)); have W2 := hide (wroteU B b (tx ++ ((⟨#[60, 112, 114, 101, 62, 60, 99, 111, 100, 101]⟩ : ByteArray) ++ ((⟨#[32, 99, 108, 97, 115, 115, 61, 34, 108, 97, 110, 103, 117, 97, 103, 101, 45]⟩ : ByteArray) ++ E ++ (⟨#[34]⟩ : ByteArray)))) (⟨#[62]⟩ : ByteArray) wl HP1.out.1 (by have := HS.out; simp only [ByteArray.size_append] at this ⊢; omega) (Nat.le_trans hBs HP1.out.2.1.size)); have hc5 := (((HG.out.later (HO.out.trans HP1.out.2.2) hb (by decide)).cell 2).trans rfl : wl.cell? ⟨g, 2, none⟩ = some (.string ⟨#[96, 96, 96]⟩)); clear hw hc3) | (go_at_call 88; (with_reducible refine W2.out.mono ?_); rintro e w2 ⟨rfl, hw⟩; have HP : Hid (Wrote B b tx ((⟨#[60, 112, 114, 101, 62, 60, 99, 111, 100, 101]⟩ : ByteArray) ++ ((⟨#[32, 99, 108, 97, 115, 115, 61, 34, 108, 97, 110, 103, 117, 97, 103, 101, 45]⟩ : ByteArray) ++ E ++ (⟨#[34]⟩ : ByteArray)) ++ (⟨#[62]⟩ : ByteArray)) w' w2) := hide (HP1.out.trans hw); have hc5 := (((HG.out.later (HO.out.trans HP.out.2.2) hb (by decide)).cell 2).trans rfl : w2.cell? ⟨g, 2, none⟩ = some (.string ⟨#[96, 96, 96]⟩)); have hc6 := (((HG.out.later (HO.out.trans HP.out.2.2) hb (by decide)).cell 4).trans rfl : w2.cell? ⟨g, 4, none⟩ = some (.slice ao n cap)); clear hw))
          have hB2 : B ≤ w2.heap.size := Nat.le_trans hBs HP.out.2.1.size
          have HO2 := hide (HO.out.trans HP.out.2.2)
          have HH2 := hide HP.out.1
          go_loopw [101] (fun kv wr => ∃ m : Nat, m ≤ n ∧ kv = .int .i64 m ∧ Hid (Wrote B b (tx ++ ((⟨#[60, 112, 114, 101, 62, 60, 99, 111, 100, 101]⟩ : ByteArray) ++ ((⟨#[32, 99, 108, 97, 115, 115, 61, 34, 108, 97, 110, 103, 117, 97, 103, 101, 45]⟩ : ByteArray) ++ E ++ (⟨#[34]⟩ : ByteArray)) ++ (⟨#[62]⟩ : ByteArray))) (catY (lineH ls) m) w2 wr)) (fun kv _ => n - (intOf kv).toNat)
          case atStart => exact ⟨0, by omega, rfl, hide (wrote_refl HH2.out)⟩
          case round =>
            clear hc5 hc6
            obtain ⟨m, hm, rfl, HW⟩ := hrel
            have hBr := hide (Nat.le_trans hB2 HW.out.2.1.size)
            by_cases hlt2 : m < n
            · have hltI : (m : Int) < (n : Int) := by omega
              obtain ⟨r, rfl, hrow⟩ := HR.out (by omega)
              have hcell := (hrow.later (HO2.out.trans HW.out.2.2) hb (by decide)).cell hlt2
              have hroom := catY_room (lineH ls) hlt2
              have HZ : Hid ((tx ++ ((⟨#[60, 112, 114, 101, 62, 60, 99, 111, 100, 101]⟩ : ByteArray) ++ ((⟨#[32, 99, 108, 97, 115, 115, 61, 34, 108, 97, 110, 103, 117, 97, 103, 101, 45]⟩ : ByteArray) ++ E ++ (⟨#[34]⟩ : ByteArray)) ++ (⟨#[62]⟩ : ByteArray)) ++ catY (lineH ls) m ++ escF (ls m) (ls m).size).size + (⟨#[10]⟩ : ByteArray).size ≤ 140737488355328) := hide (by
                have q2 := HS.out
                have hlz : (lineH ls m).size = (escF (ls m) (ls m).size).size + 1 := ByteArray.size_append
                have hl1 : (⟨#[10]⟩ : ByteArray).size = 1 := rfl
                simp only [ByteArray.size_append] at q2 ⊢
                omega)
              have R := hide (replaceU_any wr.heap.size (ls m) (wr.alloc (.cells pairsV 9)) (pairs_new wr) (HLS.out m hlt2))
              have hBa : Hid (Below wr.heap.size wr (wr.alloc (.cells pairsV 9))) := hide ((Below.refl _ _).alloc (Nat.le_refl _) _)
              obtain ⟨L, hL⟩ : ∃ L, L = ls m := ⟨_, rfl⟩
              obtain ⟨EL, hEL⟩ : ∃ EL, EL = escF L L.size := ⟨_, rfl⟩
              rw [← hL] at R HZ hcell
              rw [← hEL] at R HZ
              have HL := hide hL
              have HE := hide hEL
              clear hroom hrow hL hEL
              go_wp2_with (first | (go_at_call 125; refine (htmlEscaper_any _).mono ?_; rintro e wa ⟨rfl, rfl⟩) | (go_at_call 113; (with_reducible refine R.out.mono ?_); rintro e wb ⟨rfl, hbb⟩; have HBB := hide (hBa.out.trans (hbb.mono hBa.out.size)); have W7 := hide (wroteU B b (tx ++ ((⟨#[60, 112, 114, 101, 62, 60, 99, 111, 100, 101]⟩ : ByteArray) ++ ((⟨#[32, 99, 108, 97, 115, 115, 61, 34, 108, 97, 110, 103, 117, 97, 103, 101, 45]⟩ : ByteArray) ++ E ++ (⟨#[34]⟩ : ByteArray)) ++ (⟨#[62]⟩ : ByteArray)) ++ catY (lineH ls) m) EL wb (HW.out.1.old HBB.out) (by have := HZ.out; simp only [ByteArray.size_append] at this ⊢; omega) (Nat.le_trans hBr.out HBB.out.size)); clear hbb) | (go_at_call 88; (with_reducible refine W7.out.mono ?_); rintro e wc ⟨rfl, hw⟩; have HW7 := hide (Wrote.via HBB.out hBr.out hw); have W8 := hide (wroteU B b (tx ++ ((⟨#[60, 112, 114, 101, 62, 60, 99, 111, 100, 101]⟩ : ByteArray) ++ ((⟨#[32, 99, 108, 97, 115, 115, 61, 34, 108, 97, 110, 103, 117, 97, 103, 101, 45]⟩ : ByteArray) ++ E ++ (⟨#[34]⟩ : ByteArray)) ++ (⟨#[62]⟩ : ByteArray)) ++ catY (lineH ls) m ++ EL) (⟨#[10]⟩ : ByteArray) wc HW7.out.1 HZ.out (Nat.le_trans hBr.out HW7.out.2.1.size)); clear hw) | (go_at_call 88; (with_reducible refine W8.out.mono ?_); rintro e wd ⟨rfl, hw⟩; have HW8 := hide hw; clear hw))
              go_roundw
              case rel => exact ⟨m + 1, by omega, by go_num, hide (by rw [catY, show lineH ls m = EL ++ (⟨#[10]⟩ : ByteArray) by (unfold lineH; rw [← HL.out, ← HE.out])]; exact HW.out.trans (HW7.out.trans HW8.out))⟩
              case measure => simp [intOf]; omega
            · obtain rfl : m = n := by omega
              have hltI : ¬ ((m : Int) < (m : Int)) := by omega
              clear hlt2
              have W3 := hide (wroteU B b (tx ++ ((⟨#[60, 112, 114, 101, 62, 60, 99, 111, 100, 101]⟩ : ByteArray) ++ ((⟨#[32, 99, 108, 97, 115, 115, 61, 34, 108, 97, 110, 103, 117, 97, 103, 101, 45]⟩ : ByteArray) ++ E ++ (⟨#[34]⟩ : ByteArray)) ++ (⟨#[62]⟩ : ByteArray)) ++ catY (lineH ls) m) (⟨#[60, 47, 99, 111, 100, 101, 62, 60, 47, 112, 114, 101, 62, 10]⟩ : ByteArray) wr HW.out.1 (by have := HS.out; simp only [ByteArray.size_append] at this ⊢; omega) hBr.out)
              go_wp2_with (go_at_call 88; (with_reducible refine W3.out.mono ?_); rintro e w5 ⟨rfl, hw3⟩; have HW3 := hide hw3; clear hw3)
              go_end0
              exact ⟨rfl, (HP.out.trans HW.out).trans (by rw [← ByteArray.append_assoc]; exact HW3.out)⟩
    · have BY2 := hide (BYT.out Z hZ h10)
      have hZI : (tx.size : Int) = (Z : Int) + 1 := by omega
      have hZb : Z + 1 ≤ 100000000000000 := by have := HS.out; omega
      have LEN2 : Hid (∀ wx, HoldsU B b tx wx → Calls Tryz.prog 91 #[.pointer (some ⟨b, 0, none⟩)] wx fun e w' => e = .returned (.int .i64 ((Z : Int) + 1)) ∧ ∃ n, w' = wx.drewN n) := hide (by rw [← hZI]; exact LEN.out)
      have hgt : decide ((Z : Int) + 1 > 0) = true := by rw [decide_eq_true_iff]; omega
      clear hZI h10 BYT LEN
      go_enter Tryz.func120, Tryz.ntmps120
      go_wp2_with (first | (go_at_call 122; refine (BY2.out _ (HoldsU.drewN HH.out _)).mono ?_; rintro e w8 ⟨g8, cap8, rfl, hc8, n8, rfl⟩; have hc9 : ∀ k, (w'.drewN k).cell? ⟨g8, Z, none⟩ = some (.int .u8 10) := fun _ => hc8; have hc7 : w'.cell? ⟨g8, Z, none⟩ = some (.int .u8 10) := hc8; clear hc8) | (go_at_call 91; first | (refine (LEN2.out _ HH.out).mono ?_; rintro e w0 ⟨rfl, n0, rfl⟩) | (refine (LEN2.out _ (HoldsU.drewN HH.out _)).mono ?_; rintro e w9 ⟨rfl, n9, rfl⟩)) | (go_at_call 88; (with_reducible refine (W1.out _).mono ?_); rintro e w1 ⟨rfl, hw⟩; have HP0 : Hid (Wrote B b tx (⟨#[60, 112, 114, 101, 62, 60, 99, 111, 100, 101]⟩ : ByteArray) w' w1) := hide hw; have hc3 := (((HG.out.later (HO.out.trans HP0.out.2.2) hb (by decide)).cell 3).trans rfl : w1.cell? ⟨g, 3, none⟩ = some (.string ti)); have HBW : B ≤ w1.heap.size := Nat.le_trans hBs HP0.out.2.1.size; have HI := hide HBW; clear hw))
      go_loopw [4] (fun lv wr => ∃ pos : Nat, pos ≤ ti.size ∧ lv = .string ti ∧ wr = w1.iter ti pos) (fun _ wr => ti.size - wr.iterPos w1.heap.size)
      case atStart => exact ⟨0, Nat.zero_le _, rfl, rfl⟩
      case round =>
        obtain ⟨pos, hps, rfl, rfl⟩ := hrel
        have hmu : ∀ q, (w1.iter ti q).iterPos w1.heap.size = q := fun q => by simp [World.iterPos, World.iter_heap]
        have HMU := hide hmu
        clear hmu
        by_cases hp : pos < ti.size
        · have hbt := get_bt ti pos hp
          have hu := HLT.out pos hp
          rw [← hbt] at hu
          have hnext := fun ty => run_next_ascii (P := Tryz.prog) w1 ti pos ty hp (by omega)
          have US := hide (fun wx => uniSpace_no ((ti[pos]'hp).toNat : Int) hu.1 hu.2 wx)
          obtain ⟨C, hC⟩ : ∃ C, C = ((ti[pos]'hp).toNat : Int) := ⟨_, rfl⟩
          rw [← hC] at US
          simp only [← hC] at hnext
          clear hbt hu hC
          go_wp2_with (go_at_call 123; (with_reducible refine (US.out _).mono ?_); rintro e wq ⟨rfl, rfl⟩)
          go_roundw
          case rel => exact ⟨pos + 1, by omega, rfl, rfl⟩
          case measure => rw [HMU.out, HMU.out]; omega
        · have hnext := fun ty => run_next_end (P := Tryz.prog) w1 ti pos ty hp
          have R := hide (replaceU_any (w1.iter ti pos).heap.size ti ((w1.iter ti pos).alloc (.cells pairsV 9)) (pairs_new _) (by omega))
          have hBa : Hid (Below w1.heap.size w1 ((w1.iter ti pos).alloc (.cells pairsV 9))) := hide (((Below.refl _ w1).alloc (Nat.le_refl _) (.stringIter ti pos)).alloc (by rw [World.size_alloc']; omega) _)
          rw [← HEE.out] at R
          go_wp2_with (first | (go_at_call 112; refine (quoteEscaper_any _).mono ?_; rintro e wa ⟨rfl, rfl⟩) | (go_at_call 113; (with_reducible refine R.out.mono ?_); rintro e wb ⟨rfl, hbb⟩; have HBB := hide (hBa.out.trans (hbb.mono hBa.out.size)); have WL := hide (wroteU B b (tx ++ (⟨#[60, 112, 114, 101, 62, 60, 99, 111, 100, 101]⟩ : ByteArray)) ((⟨#[32, 99, 108, 97, 115, 115, 61, 34, 108, 97, 110, 103, 117, 97, 103, 101, 45]⟩ : ByteArray) ++ E ++ (⟨#[34]⟩ : ByteArray)) wb (HP0.out.1.old HBB.out) (by have := HS.out; simp only [ByteArray.size_append] at this ⊢; omega) (Nat.le_trans HBW HBB.out.size)); clear hbb) | (go_at_call 88; (with_reducible refine WL.out.mono ?_); rintro e wl ⟨rfl, hw⟩; have HP1 : Hid (Wrote B b tx ((⟨#[60, 112, 114, 101, 62, 60, 99, 111, 100, 101]⟩ : ByteArray) ++ ((⟨#[32, 99, 108, 97, 115, 115, 61, 34, 108, 97, 110, 103, 117, 97, 103, 101, 45]⟩ : ByteArray) ++ E ++ (⟨#[34]⟩ : ByteArray))) w' wl) := hide (HP0.out.trans (Wrote.via HBB.out HBW hw)); have W2 := hide (wroteU B b (tx ++ ((⟨#[60, 112, 114, 101, 62, 60, 99, 111, 100, 101]⟩ : ByteArray) ++ ((⟨#[32, 99, 108, 97, 115, 115, 61, 34, 108, 97, 110, 103, 117, 97, 103, 101, 45]⟩ : ByteArray) ++ E ++ (⟨#[34]⟩ : ByteArray)))) (⟨#[62]⟩ : ByteArray) wl HP1.out.1 (by have := HS.out; simp only [ByteArray.size_append] at this ⊢; omega) (Nat.le_trans hBs HP1.out.2.1.size)); have hc5 := (((HG.out.later (HO.out.trans HP1.out.2.2) hb (by decide)).cell 2).trans rfl : wl.cell? ⟨g, 2, none⟩ = some (.string ⟨#[96, 96, 96]⟩)); clear hw hc3) | (go_at_call 88; (with_reducible refine W2.out.mono ?_); rintro e w2 ⟨rfl, hw⟩; have HP : Hid (Wrote B b tx ((⟨#[60, 112, 114, 101, 62, 60, 99, 111, 100, 101]⟩ : ByteArray) ++ ((⟨#[32, 99, 108, 97, 115, 115, 61, 34, 108, 97, 110, 103, 117, 97, 103, 101, 45]⟩ : ByteArray) ++ E ++ (⟨#[34]⟩ : ByteArray)) ++ (⟨#[62]⟩ : ByteArray)) w' w2) := hide (HP1.out.trans hw); have hc5 := (((HG.out.later (HO.out.trans HP.out.2.2) hb (by decide)).cell 2).trans rfl : w2.cell? ⟨g, 2, none⟩ = some (.string ⟨#[96, 96, 96]⟩)); have hc6 := (((HG.out.later (HO.out.trans HP.out.2.2) hb (by decide)).cell 4).trans rfl : w2.cell? ⟨g, 4, none⟩ = some (.slice ao n cap)); clear hw))
          have hB2 : B ≤ w2.heap.size := Nat.le_trans hBs HP.out.2.1.size
          have HO2 := hide (HO.out.trans HP.out.2.2)
          have HH2 := hide HP.out.1
          go_loopw [101] (fun kv wr => ∃ m : Nat, m ≤ n ∧ kv = .int .i64 m ∧ Hid (Wrote B b (tx ++ ((⟨#[60, 112, 114, 101, 62, 60, 99, 111, 100, 101]⟩ : ByteArray) ++ ((⟨#[32, 99, 108, 97, 115, 115, 61, 34, 108, 97, 110, 103, 117, 97, 103, 101, 45]⟩ : ByteArray) ++ E ++ (⟨#[34]⟩ : ByteArray)) ++ (⟨#[62]⟩ : ByteArray))) (catY (lineH ls) m) w2 wr)) (fun kv _ => n - (intOf kv).toNat)
          case atStart => exact ⟨0, by omega, rfl, hide (wrote_refl HH2.out)⟩
          case round =>
            clear hc5 hc6
            obtain ⟨m, hm, rfl, HW⟩ := hrel
            have hBr := hide (Nat.le_trans hB2 HW.out.2.1.size)
            by_cases hlt2 : m < n
            · have hltI : (m : Int) < (n : Int) := by omega
              obtain ⟨r, rfl, hrow⟩ := HR.out (by omega)
              have hcell := (hrow.later (HO2.out.trans HW.out.2.2) hb (by decide)).cell hlt2
              have hroom := catY_room (lineH ls) hlt2
              have HZ : Hid ((tx ++ ((⟨#[60, 112, 114, 101, 62, 60, 99, 111, 100, 101]⟩ : ByteArray) ++ ((⟨#[32, 99, 108, 97, 115, 115, 61, 34, 108, 97, 110, 103, 117, 97, 103, 101, 45]⟩ : ByteArray) ++ E ++ (⟨#[34]⟩ : ByteArray)) ++ (⟨#[62]⟩ : ByteArray)) ++ catY (lineH ls) m ++ escF (ls m) (ls m).size).size + (⟨#[10]⟩ : ByteArray).size ≤ 140737488355328) := hide (by
                have q2 := HS.out
                have hlz : (lineH ls m).size = (escF (ls m) (ls m).size).size + 1 := ByteArray.size_append
                have hl1 : (⟨#[10]⟩ : ByteArray).size = 1 := rfl
                simp only [ByteArray.size_append] at q2 ⊢
                omega)
              have R := hide (replaceU_any wr.heap.size (ls m) (wr.alloc (.cells pairsV 9)) (pairs_new wr) (HLS.out m hlt2))
              have hBa : Hid (Below wr.heap.size wr (wr.alloc (.cells pairsV 9))) := hide ((Below.refl _ _).alloc (Nat.le_refl _) _)
              obtain ⟨L, hL⟩ : ∃ L, L = ls m := ⟨_, rfl⟩
              obtain ⟨EL, hEL⟩ : ∃ EL, EL = escF L L.size := ⟨_, rfl⟩
              rw [← hL] at R HZ hcell
              rw [← hEL] at R HZ
              have HL := hide hL
              have HE := hide hEL
              clear hroom hrow hL hEL
              go_wp2_with (first | (go_at_call 125; refine (htmlEscaper_any _).mono ?_; rintro e wa ⟨rfl, rfl⟩) | (go_at_call 113; (with_reducible refine R.out.mono ?_); rintro e wb ⟨rfl, hbb⟩; have HBB := hide (hBa.out.trans (hbb.mono hBa.out.size)); have W7 := hide (wroteU B b (tx ++ ((⟨#[60, 112, 114, 101, 62, 60, 99, 111, 100, 101]⟩ : ByteArray) ++ ((⟨#[32, 99, 108, 97, 115, 115, 61, 34, 108, 97, 110, 103, 117, 97, 103, 101, 45]⟩ : ByteArray) ++ E ++ (⟨#[34]⟩ : ByteArray)) ++ (⟨#[62]⟩ : ByteArray)) ++ catY (lineH ls) m) EL wb (HW.out.1.old HBB.out) (by have := HZ.out; simp only [ByteArray.size_append] at this ⊢; omega) (Nat.le_trans hBr.out HBB.out.size)); clear hbb) | (go_at_call 88; (with_reducible refine W7.out.mono ?_); rintro e wc ⟨rfl, hw⟩; have HW7 := hide (Wrote.via HBB.out hBr.out hw); have W8 := hide (wroteU B b (tx ++ ((⟨#[60, 112, 114, 101, 62, 60, 99, 111, 100, 101]⟩ : ByteArray) ++ ((⟨#[32, 99, 108, 97, 115, 115, 61, 34, 108, 97, 110, 103, 117, 97, 103, 101, 45]⟩ : ByteArray) ++ E ++ (⟨#[34]⟩ : ByteArray)) ++ (⟨#[62]⟩ : ByteArray)) ++ catY (lineH ls) m ++ EL) (⟨#[10]⟩ : ByteArray) wc HW7.out.1 HZ.out (Nat.le_trans hBr.out HW7.out.2.1.size)); clear hw) | (go_at_call 88; (with_reducible refine W8.out.mono ?_); rintro e wd ⟨rfl, hw⟩; have HW8 := hide hw; clear hw))
              go_roundw
              case rel => exact ⟨m + 1, by omega, by go_num, hide (by rw [catY, show lineH ls m = EL ++ (⟨#[10]⟩ : ByteArray) by (unfold lineH; rw [← HL.out, ← HE.out])]; exact HW.out.trans (HW7.out.trans HW8.out))⟩
              case measure => simp [intOf]; omega
            · obtain rfl : m = n := by omega
              have hltI : ¬ ((m : Int) < (m : Int)) := by omega
              clear hlt2
              have W3 := hide (wroteU B b (tx ++ ((⟨#[60, 112, 114, 101, 62, 60, 99, 111, 100, 101]⟩ : ByteArray) ++ ((⟨#[32, 99, 108, 97, 115, 115, 61, 34, 108, 97, 110, 103, 117, 97, 103, 101, 45]⟩ : ByteArray) ++ E ++ (⟨#[34]⟩ : ByteArray)) ++ (⟨#[62]⟩ : ByteArray)) ++ catY (lineH ls) m) (⟨#[60, 47, 99, 111, 100, 101, 62, 60, 47, 112, 114, 101, 62, 10]⟩ : ByteArray) wr HW.out.1 (by have := HS.out; simp only [ByteArray.size_append] at this ⊢; omega) hBr.out)
              go_wp2_with (go_at_call 88; (with_reducible refine W3.out.mono ?_); rintro e w5 ⟨rfl, hw3⟩; have HW3 := hide hw3; clear hw3)
              go_end0
              exact ⟨rfl, (HP.out.trans HW.out).trans (by rw [← ByteArray.append_assoc]; exact HW3.out)⟩
end Go.Proofs.YtipniinmajoolaaGreatDoor
