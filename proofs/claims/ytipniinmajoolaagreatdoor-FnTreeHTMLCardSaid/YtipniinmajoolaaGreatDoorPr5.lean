/- What the package's items print as HTML. Conditions: sizes, as each states them. -/
import Derived.Test.YtipniinmajoolaaGreatDoorPr3
namespace Go.Proofs.YtipniinmajoolaaGreatDoor
open Go.RowKit
section
variable {P : Program}
/-- An assertion of a pointer's type, the type being this. -/
theorem wpList_assert_yes {ops : Array Oper} {rest : List Oper} {op : Oper} {a : Act} {w : World} {Q : Exit → Act → World → Prop} (hgd : op.guard = none) (x : Operand) (xT aT e : TypeId) (ho : op.op = .typeAssert x xT aT true)
    (v : Value) (hx : a.eval x = .iface aT v) (hu : P.underlying aT = some (.pointer e))
    (h : wpList P ops Q rest (a.put op.dst (.tuple #[v, .bool true])) w) : wpList P ops Q (op :: rest) a w :=
  wpList_plain hgd fun K hK => by
    unfold Oper.wp execOp
    simp only [ho, hx]
    simp [Instr.typeAssert, run_underlying hu, Result.andThen, Oper.upon_value]
    exact hK _ _ h
end
theorem app_mt (s : ByteArray) : s ++ (⟨#[]⟩ : ByteArray) = s := ByteArray.append_empty
theorem zero_text (w : World) : (zeroValue 77).run Tryz.prog w = .ok (.pointer none) w := by simp [go_sem]
def nlI (ts : Nat → Bool) : ByteArray := if ts 0 = false then ⟨#[10]⟩ else ⟨#[]⟩
theorem item_html (ts : Nat → Bool) (ys : Nat → ByteArray) {n : Nat} (h0 : 0 < n) : itHTML ts ys n = ((⟨#[60, 108, 105, 62]⟩ : ByteArray) ++ nlI ts) ++ catY (itPiece ts ys n) n ++ (⟨#[60, 47, 108, 105, 62, 10]⟩ : ByteArray) := by
  unfold itHTML nlI
  by_cases h : ts 0 = false
  · rw [if_pos ⟨h0, h⟩, if_pos h]
  · rw [if_neg (fun q => h q.2), if_neg h]
theorem nlI_size (ts : Nat → Bool) : (nlI ts).size ≤ 1 := by unfold nlI; split <;> decide
theorem piece_room (ts : Nat → Bool) (ys : Nat → ByteArray) {m n : Nat} : (ys m).size ≤ (itPiece ts ys n m).size := by unfold itPiece; rw [ByteArray.size_append]; omega
theorem item_line (t : ByteArray) (ts : Nat → Bool) (ys : Nat → ByteArray) {n : Nat} (hE : ∀ k, k < n → ts k = false → EndLf (ys k)) : ∀ m, m < n → ts m = false → LineEnd (t ++ ((⟨#[60, 108, 105, 62]⟩ : ByteArray) ++ nlI ts) ++ catY (itPiece ts ys n) m)
  | 0, h, h2 => by
    rw [catY, ByteArray.append_empty]
    unfold nlI
    rw [if_pos h2]
    exact (EndLf.app t ⟨by decide, by decide⟩).lineEnd
  | m + 1, h, _ => by
    rw [catY, ← ByteArray.append_assoc]
    refine (EndLf.app _ ?_).lineEnd
    unfold itPiece
    by_cases e : ts m = true
    · rw [if_pos ⟨e, h⟩]
      exact EndLf.app _ ⟨by decide, by decide⟩
    · rw [if_neg (fun q => e q.1), show (⟨#[]⟩ : ByteArray) = ByteArray.empty from rfl, ByteArray.append_empty]
      exact hE m (by omega) (by simpa using e)
set_option maxHeartbeats 2000000 in
set_option maxRecDepth 100000 in
theorem item_prints (w : World) (g : Nat) (p1 p2 wd : Int) (ks : Value) (n : Nat) (vs : Nat → Value) (ts : Nat → Bool) (ys : Nat → ByteArray) (h0 : 0 < n) (ho : ObjAt w g #[.int .i64 p1, .int .i64 p2, ks, .int .i64 wd] 139) (hr : RowIs 46 w ks n vs)
    (hk : ∀ k, k < n → PrK w (vs k) (ts k) (ys k)) : PrB (fun tx => false = false → LineEnd tx) w g 138 (itHTML ts ys n) := by
  intro w' B b tx hb hO hH hBs hsz hT
  obtain ⟨ao, cap, rfl, hn, hr⟩ := hr
  obtain ⟨r, rfl, hrow⟩ := hr h0
  rw [item_html ts ys h0] at hsz ⊢
  have HG := hide ho
  have HR := hide hrow
  have HK := hide hk
  have HO := hide hO
  have HH := hide hH
  have hE : Hid (∀ k, k < n → ts k = false → EndLf (ys k)) := hide (fun k hk ht => by obtain ⟨_, _, _, _, _, _, h, _⟩ := HK.out k hk; exact (h ht).2)
  have HL := hide (item_line tx ts ys hE.out)
  have HN : Hid (nlI ts = if ts 0 = false then ⟨#[10]⟩ else ⟨#[]⟩) := hide rfl
  have hnz := nlI_size ts
  obtain ⟨N, hN⟩ : ∃ N, N = nlI ts := ⟨_, rfl⟩
  rw [← hN] at HL HN hnz hsz ⊢
  simp only [ByteArray.size_append] at hsz
  have zp : (⟨#[60, 108, 105, 62]⟩ : ByteArray).size = 4 := rfl
  have zq : (⟨#[60, 47, 108, 105, 62, 10]⟩ : ByteArray).size = 6 := rfl
  have zn : (⟨#[10]⟩ : ByteArray).size = 1 := rfl
  have HS := hide hsz
  have h0I : (0 : Int) < (n : Int) := by omega
  have W1 := hide (wroteU B b tx ⟨#[60, 108, 105, 62]⟩ w' HH.out (by omega) hBs)
  obtain ⟨T, gk, f, hv, hD, hT1, hT2, _⟩ := hk 0 h0
  have HV := hide hv
  have HT1 := hide hT1
  have HT2 := hide hT2
  clear hk hO hH ho hT hrow hsz hN hv hD hT1 hT2 hr
  have hpre : ∃ b0 : Bool, ts 0 = b0 := ⟨_, rfl⟩
  obtain ⟨b0, hb0⟩ := hpre
  rw [hb0] at HT1 HT2 HN
  replace hb0 := hide hb0
  cases b0 with
  | true =>
    obtain rfl : T = 77 := HT1.out rfl
    obtain rfl : N = ⟨#[]⟩ := HN.out
    clear HT1 HT2 HN hnz
    have z0 : (⟨#[]⟩ : ByteArray).size = 0 := rfl
    go_enter Tryz.func138, Tryz.ntmps138
    go_wp2_with (first | ((with_reducible refine wpList_assert_yes ?_ (.tmp 24) 46 77 119 ?_ (ptr gk) ?_ Tryz.underlying77 ?_); exact rfl; exact rfl; (simp [go_sem])) | (go_at_call 88; (with_reducible refine W1.out.mono ?_); rintro e w1 ⟨rfl, hw⟩; have HP : Hid (Wrote B b tx ((⟨#[60, 108, 105, 62]⟩ : ByteArray) ++ (⟨#[]⟩ : ByteArray)) w' w1) := hide (by rw [app_mt]; exact hw); have hc1 := (((HG.out.later (HO.out.trans HP.out.2.2) hb (by decide)).cell 2).trans rfl : w1.cell? ⟨g, 2, none⟩ = some (.slice (some ⟨r, 0, none⟩) n cap)); have hc2 := (((HR.out.later (HO.out.trans HP.out.2.2) hb (by decide)).cell h0).trans (congrArg some HV.out) : w1.cell? ⟨r, 0, none⟩ = some (.iface 77 (ptr gk))); clear hw))
    clear hc1 hc2
    have HO1 := hide (HO.out.trans HP.out.2.2)
    have HH1 := hide HP.out.1
    have hB1 : B ≤ w1.heap.size := Nat.le_trans hBs HP.out.2.1.size
    go_loopw [37] (fun kv wr => ∃ m : Nat, m ≤ n ∧ kv = .int .i64 m ∧ Hid (Wrote B b (tx ++ ((⟨#[60, 108, 105, 62]⟩ : ByteArray) ++ (⟨#[]⟩ : ByteArray))) (catY (itPiece ts ys n) m) w1 wr)) (fun kv _ => n - (intOf kv).toNat)
    case atStart => exact ⟨0, by omega, rfl, hide (wrote_refl HH1.out)⟩
    case round =>
      obtain ⟨m, hm, rfl, HW⟩ := hrel
      have hsz := HS.out
      by_cases hlt : m < n
      · have hltI : (m : Int) < (n : Int) := by omega
        have hcell := (HR.out.later (HO1.out.trans HW.out.2.2) hb (by decide)).cell hlt
        obtain ⟨T2, gm, f2, hv, hD, hT1, hT2, hP⟩ := HK.out m hlt
        rw [hv] at hcell
        have hroom := catY_room (itPiece ts ys n) hlt
        have hpr := piece_room ts ys (m := m) (n := n)
        have CP := hide (hP wr B b (tx ++ ((⟨#[60, 108, 105, 62]⟩ : ByteArray) ++ (⟨#[]⟩ : ByteArray)) ++ catY (itPiece ts ys n) m) hb (HO1.out.trans HW.out.2.2) HW.out.1 (Nat.le_trans hB1 HW.out.2.1.size) (by simp only [ByteArray.size_append]; omega) (fun e => HL.out m hlt e))
        have HD := hide hD
        have HPC : Hid (itPiece ts ys n m = ys m ++ (if ts m = true ∧ m + 1 < n then (⟨#[10]⟩ : ByteArray) else ⟨#[]⟩)) := hide rfl
        obtain ⟨PC, hPC⟩ : ∃ PC, PC = itPiece ts ys n m := ⟨_, rfl⟩
        have HRM := hide hroom
        obtain ⟨tm, htm⟩ : ∃ tm : Bool, ts m = tm := ⟨_, rfl⟩
        rw [htm] at hT1 hT2 HPC
        have HTM := hide htm
        have HPC2 := hide hPC
        rw [← hPC] at HPC HRM
        clear hv hD hP hroom hsz hpr htm hPC
        by_cases hend : m + 1 < n
        · have hendI : decide ((m : Int) + 1 < (n : Int)) = true := by rw [decide_eq_true_iff]; omega
          cases tm with
          | true =>
            obtain rfl : T2 = 77 := hT1 rfl
            have HZ5 : Hid ((tx ++ ((⟨#[60, 108, 105, 62]⟩ : ByteArray) ++ (⟨#[]⟩ : ByteArray)) ++ catY (itPiece ts ys n) m ++ ys m).size + (⟨#[10]⟩ : ByteArray).size ≤ 140737488355328) := hide (by
              have q1 := HRM.out
              have q2 := HS.out
              rw [HPC.out, if_pos (And.intro (Eq.refl true) hend)] at q1
              simp only [ByteArray.size_append] at q1 q2 ⊢
              omega)
            clear hT1 hT2
            go_wp2_with (first | ((with_reducible refine wpList_invoke ?_ (.tmp 42) (.tmp 43) "PrintHTML" 57 ?_ 77 gm f2 ?_ HD.out _ (ptr b) ?_ CP.out ?_); exact rfl; exact rfl; (simp [go_sem]); (simp [go_sem]); rintro w2 hW2; have HW2 := hide hW2; have hc4 := (((HG.out.later (HO1.out.trans (HW.out.2.2.trans HW2.out.2.2)) hb (by decide)).cell 2).trans rfl : w2.cell? ⟨g, 2, none⟩ = some (.slice (some ⟨r, 0, none⟩) n cap)); have W5 := hide (wroteU B b (tx ++ ((⟨#[60, 108, 105, 62]⟩ : ByteArray) ++ (⟨#[]⟩ : ByteArray)) ++ catY (itPiece ts ys n) m ++ ys m) ⟨#[10]⟩ _ HW2.out.1 HZ5.out (Nat.le_trans hB1 (Nat.le_trans HW.out.2.1.size HW2.out.2.1.size))); clear hW2) | ((with_reducible refine wpList_assert_yes ?_ (.tmp 54) 46 77 119 ?_ (ptr gm) ?_ Tryz.underlying77 ?_); exact rfl; exact rfl; (simp [go_sem])) | (go_at_call 88; (with_reducible refine W5.out.mono ?_); rintro e w5 ⟨rfl, hw5⟩; have HW5 := hide hw5; clear hw5))
            go_roundw
            case rel => exact ⟨m + 1, by omega, by go_num, hide (by rw [catY, ← HPC2.out, HPC.out, if_pos (And.intro True.intro hend)]; exact HW.out.trans (HW2.out.trans HW5.out))⟩
            case measure => simp [intOf]; omega
          | false =>
            have hT3 := (hT2 rfl).1
            clear hT1 hT2
            go_wp2_with (first | ((with_reducible refine wpList_invoke ?_ (.tmp 42) (.tmp 43) "PrintHTML" 57 ?_ T2 gm f2 ?_ HD.out _ (ptr b) ?_ CP.out ?_); exact rfl; exact rfl; (simp [go_sem]); (simp [go_sem]); rintro w2 hW2; have HW2 := hide hW2; have hc4 := (((HG.out.later (HO1.out.trans (HW.out.2.2.trans HW2.out.2.2)) hb (by decide)).cell 2).trans rfl : w2.cell? ⟨g, 2, none⟩ = some (.slice (some ⟨r, 0, none⟩) n cap)); clear hW2) | (((with_reducible refine wpList_assert_no ?_ (.tmp 54) 46 77 119 ?_ T2 (ptr gm) ?_ hT3 Tryz.underlying77 (zero_text _) ?_); exact rfl; exact rfl; (simp [go_sem])); skip))
            go_roundw
            case rel => exact ⟨m + 1, by omega, by go_num, hide (by rw [catY, ← HPC2.out, HPC.out, if_neg (fun q => Bool.false_ne_true q.1), app_mt (ys m)]; exact HW.out.trans HW2.out)⟩
            case measure => simp [intOf]; omega
        · have hendI : decide ((m : Int) + 1 < (n : Int)) = false := by rw [decide_eq_false_iff_not]; omega
          have HEN := hide hend
          clear hT1 hT2 hend
          go_wp2_with ((with_reducible refine wpList_invoke ?_ (.tmp 42) (.tmp 43) "PrintHTML" 57 ?_ T2 gm f2 ?_ HD.out _ (ptr b) ?_ CP.out ?_); exact rfl; exact rfl; (simp [go_sem]); (simp [go_sem]); rintro w2 hW2; have HW2 := hide hW2; have hc4 := (((HG.out.later (HO1.out.trans (HW.out.2.2.trans HW2.out.2.2)) hb (by decide)).cell 2).trans rfl : w2.cell? ⟨g, 2, none⟩ = some (.slice (some ⟨r, 0, none⟩) n cap)); clear hW2)
          go_roundw
          case rel => exact ⟨m + 1, by omega, by go_num, hide (by rw [catY, ← HPC2.out, HPC.out, if_neg (fun q => HEN.out q.2), app_mt (ys m)]; exact HW.out.trans HW2.out)⟩
          case measure => simp [intOf]; omega
      · obtain rfl : m = n := by omega
        have hltI : ¬ ((m : Int) < (m : Int)) := by omega
        clear hlt
        have W3 := hide (wroteU B b (tx ++ ((⟨#[60, 108, 105, 62]⟩ : ByteArray) ++ (⟨#[]⟩ : ByteArray)) ++ catY (itPiece ts ys m) m) ⟨#[60, 47, 108, 105, 62, 10]⟩ wr HW.out.1 (by simp only [ByteArray.size_append]; omega) (Nat.le_trans hB1 HW.out.2.1.size))
        clear hsz
        go_wp2_with (go_at_call 88; (with_reducible refine W3.out.mono ?_); rintro e w3 ⟨rfl, hw3⟩; have HW3 := hide hw3; clear hw3)
        go_end0
        exact ⟨rfl, (HP.out.trans HW.out).trans (by rw [← ByteArray.append_assoc]; exact HW3.out)⟩
  | false =>
    have hT3 := (HT2.out rfl).1
    obtain rfl : N = ⟨#[10]⟩ := HN.out
    clear HT1 HT2 HN hnz
    have z0 : (⟨#[10]⟩ : ByteArray).size = 1 := rfl
    go_enter Tryz.func138, Tryz.ntmps138
    go_wp2_with (first | (go_at_call 88; (with_reducible refine W1.out.mono ?_); rintro e w0 ⟨rfl, hw⟩; have HP0 := hide hw; have W2 := hide (wroteU B b (tx ++ (⟨#[60, 108, 105, 62]⟩ : ByteArray)) ⟨#[10]⟩ w0 HP0.out.1 (by have := HS.out; simp only [ByteArray.size_append]; omega) (Nat.le_trans hBs HP0.out.2.1.size)); have hc1 := (((HG.out.later (HO.out.trans HP0.out.2.2) hb (by decide)).cell 2).trans rfl : w0.cell? ⟨g, 2, none⟩ = some (.slice (some ⟨r, 0, none⟩) n cap)); have hc2 := (((HR.out.later (HO.out.trans HP0.out.2.2) hb (by decide)).cell h0).trans (congrArg some HV.out) : w0.cell? ⟨r, 0, none⟩ = some (.iface T (ptr gk))); clear hw) | ((with_reducible refine wpList_assert_no ?_ (.tmp 24) 46 77 119 ?_ T (ptr gk) ?_ hT3 Tryz.underlying77 (zero_text _) ?_); exact rfl; exact rfl; (simp [go_sem])) | (go_at_call 88; (with_reducible refine W2.out.mono ?_); rintro e w1 ⟨rfl, hw⟩; have HP : Hid (Wrote B b tx ((⟨#[60, 108, 105, 62]⟩ : ByteArray) ++ (⟨#[10]⟩ : ByteArray)) w' w1) := hide (HP0.out.trans hw); clear hc1 hc2; have hc1 := (((HG.out.later (HO.out.trans HP.out.2.2) hb (by decide)).cell 2).trans rfl : w1.cell? ⟨g, 2, none⟩ = some (.slice (some ⟨r, 0, none⟩) n cap)); have hc2 := True.intro; clear hw))
    clear hc1 hc2
    have HO1 := hide (HO.out.trans HP.out.2.2)
    have HH1 := hide HP.out.1
    have hB1 : B ≤ w1.heap.size := Nat.le_trans hBs HP.out.2.1.size
    go_loopw [37] (fun kv wr => ∃ m : Nat, m ≤ n ∧ kv = .int .i64 m ∧ Hid (Wrote B b (tx ++ ((⟨#[60, 108, 105, 62]⟩ : ByteArray) ++ (⟨#[10]⟩ : ByteArray))) (catY (itPiece ts ys n) m) w1 wr)) (fun kv _ => n - (intOf kv).toNat)
    case atStart => exact ⟨0, by omega, rfl, hide (wrote_refl HH1.out)⟩
    case round =>
      obtain ⟨m, hm, rfl, HW⟩ := hrel
      have hsz := HS.out
      by_cases hlt : m < n
      · have hltI : (m : Int) < (n : Int) := by omega
        have hcell := (HR.out.later (HO1.out.trans HW.out.2.2) hb (by decide)).cell hlt
        obtain ⟨T2, gm, f2, hv, hD, hT1, hT2, hP⟩ := HK.out m hlt
        rw [hv] at hcell
        have hroom := catY_room (itPiece ts ys n) hlt
        have hpr := piece_room ts ys (m := m) (n := n)
        have CP := hide (hP wr B b (tx ++ ((⟨#[60, 108, 105, 62]⟩ : ByteArray) ++ (⟨#[10]⟩ : ByteArray)) ++ catY (itPiece ts ys n) m) hb (HO1.out.trans HW.out.2.2) HW.out.1 (Nat.le_trans hB1 HW.out.2.1.size) (by simp only [ByteArray.size_append]; omega) (fun e => HL.out m hlt e))
        have HD := hide hD
        have HPC : Hid (itPiece ts ys n m = ys m ++ (if ts m = true ∧ m + 1 < n then (⟨#[10]⟩ : ByteArray) else ⟨#[]⟩)) := hide rfl
        obtain ⟨PC, hPC⟩ : ∃ PC, PC = itPiece ts ys n m := ⟨_, rfl⟩
        have HRM := hide hroom
        obtain ⟨tm, htm⟩ : ∃ tm : Bool, ts m = tm := ⟨_, rfl⟩
        rw [htm] at hT1 hT2 HPC
        have HTM := hide htm
        have HPC2 := hide hPC
        rw [← hPC] at HPC HRM
        clear hv hD hP hroom hsz hpr htm hPC
        by_cases hend : m + 1 < n
        · have hendI : decide ((m : Int) + 1 < (n : Int)) = true := by rw [decide_eq_true_iff]; omega
          cases tm with
          | true =>
            obtain rfl : T2 = 77 := hT1 rfl
            have HZ5 : Hid ((tx ++ ((⟨#[60, 108, 105, 62]⟩ : ByteArray) ++ (⟨#[10]⟩ : ByteArray)) ++ catY (itPiece ts ys n) m ++ ys m).size + (⟨#[10]⟩ : ByteArray).size ≤ 140737488355328) := hide (by
              have q1 := HRM.out
              have q2 := HS.out
              rw [HPC.out, if_pos (And.intro (Eq.refl true) hend)] at q1
              simp only [ByteArray.size_append] at q1 q2 ⊢
              omega)
            clear hT1 hT2
            go_wp2_with (first | ((with_reducible refine wpList_invoke ?_ (.tmp 42) (.tmp 43) "PrintHTML" 57 ?_ 77 gm f2 ?_ HD.out _ (ptr b) ?_ CP.out ?_); exact rfl; exact rfl; (simp [go_sem]); (simp [go_sem]); rintro w2 hW2; have HW2 := hide hW2; have hc4 := (((HG.out.later (HO1.out.trans (HW.out.2.2.trans HW2.out.2.2)) hb (by decide)).cell 2).trans rfl : w2.cell? ⟨g, 2, none⟩ = some (.slice (some ⟨r, 0, none⟩) n cap)); have W5 := hide (wroteU B b (tx ++ ((⟨#[60, 108, 105, 62]⟩ : ByteArray) ++ (⟨#[10]⟩ : ByteArray)) ++ catY (itPiece ts ys n) m ++ ys m) ⟨#[10]⟩ _ HW2.out.1 HZ5.out (Nat.le_trans hB1 (Nat.le_trans HW.out.2.1.size HW2.out.2.1.size))); clear hW2) | ((with_reducible refine wpList_assert_yes ?_ (.tmp 54) 46 77 119 ?_ (ptr gm) ?_ Tryz.underlying77 ?_); exact rfl; exact rfl; (simp [go_sem])) | (go_at_call 88; (with_reducible refine W5.out.mono ?_); rintro e w5 ⟨rfl, hw5⟩; have HW5 := hide hw5; clear hw5))
            go_roundw
            case rel => exact ⟨m + 1, by omega, by go_num, hide (by rw [catY, ← HPC2.out, HPC.out, if_pos (And.intro True.intro hend)]; exact HW.out.trans (HW2.out.trans HW5.out))⟩
            case measure => simp [intOf]; omega
          | false =>
            have hT3 := (hT2 rfl).1
            clear hT1 hT2
            go_wp2_with (first | ((with_reducible refine wpList_invoke ?_ (.tmp 42) (.tmp 43) "PrintHTML" 57 ?_ T2 gm f2 ?_ HD.out _ (ptr b) ?_ CP.out ?_); exact rfl; exact rfl; (simp [go_sem]); (simp [go_sem]); rintro w2 hW2; have HW2 := hide hW2; have hc4 := (((HG.out.later (HO1.out.trans (HW.out.2.2.trans HW2.out.2.2)) hb (by decide)).cell 2).trans rfl : w2.cell? ⟨g, 2, none⟩ = some (.slice (some ⟨r, 0, none⟩) n cap)); clear hW2) | (((with_reducible refine wpList_assert_no ?_ (.tmp 54) 46 77 119 ?_ T2 (ptr gm) ?_ hT3 Tryz.underlying77 (zero_text _) ?_); exact rfl; exact rfl; (simp [go_sem])); skip))
            go_roundw
            case rel => exact ⟨m + 1, by omega, by go_num, hide (by rw [catY, ← HPC2.out, HPC.out, if_neg (fun q => Bool.false_ne_true q.1), app_mt (ys m)]; exact HW.out.trans HW2.out)⟩
            case measure => simp [intOf]; omega
        · have hendI : decide ((m : Int) + 1 < (n : Int)) = false := by rw [decide_eq_false_iff_not]; omega
          have HEN := hide hend
          clear hT1 hT2 hend
          go_wp2_with ((with_reducible refine wpList_invoke ?_ (.tmp 42) (.tmp 43) "PrintHTML" 57 ?_ T2 gm f2 ?_ HD.out _ (ptr b) ?_ CP.out ?_); exact rfl; exact rfl; (simp [go_sem]); (simp [go_sem]); rintro w2 hW2; have HW2 := hide hW2; have hc4 := (((HG.out.later (HO1.out.trans (HW.out.2.2.trans HW2.out.2.2)) hb (by decide)).cell 2).trans rfl : w2.cell? ⟨g, 2, none⟩ = some (.slice (some ⟨r, 0, none⟩) n cap)); clear hW2)
          go_roundw
          case rel => exact ⟨m + 1, by omega, by go_num, hide (by rw [catY, ← HPC2.out, HPC.out, if_neg (fun q => HEN.out q.2), app_mt (ys m)]; exact HW.out.trans HW2.out)⟩
          case measure => simp [intOf]; omega
      · obtain rfl : m = n := by omega
        have hltI : ¬ ((m : Int) < (m : Int)) := by omega
        clear hlt
        have W3 := hide (wroteU B b (tx ++ ((⟨#[60, 108, 105, 62]⟩ : ByteArray) ++ (⟨#[10]⟩ : ByteArray)) ++ catY (itPiece ts ys m) m) ⟨#[60, 47, 108, 105, 62, 10]⟩ wr HW.out.1 (by simp only [ByteArray.size_append]; omega) (Nat.le_trans hB1 HW.out.2.1.size))
        clear hsz
        go_wp2_with (go_at_call 88; (with_reducible refine W3.out.mono ?_); rintro e w3 ⟨rfl, hw3⟩; have HW3 := hide hw3; clear hw3)
        go_end0
        exact ⟨rfl, (HP.out.trans HW.out).trans (by rw [← ByteArray.append_assoc]; exact HW3.out)⟩
end Go.Proofs.YtipniinmajoolaaGreatDoor
