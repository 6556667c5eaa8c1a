/- The reference's HTML of an item of a list, given what its blocks are. Conditions: as each states them. -/
import Derived.Test.YtipniinmajoolaaGreatDoorSp3
import Derived.Deep.Cut
import Derived.Deep.CutRange
namespace Go.Proofs.YtipniinmajoolaaGreatDoor
open Go.RowKit Go.Sort
/-- What a block's HTML is, at a depth. -/
def BlockS (d : Nat) : Prop := ∀ (w : World) (cs : Array Value) (p : Option ByteArray) (y : ByteArray), SB d w cs p y → Calls Tryz.prog 13 #[.agg cs] w fun e w' => e = .returned (.string y) ∧ Below w.heap.size w w'
theorem SZ_le {d : Nat} (h : d ≤ 4) : SZ d ≤ 1500000000 := by
  rcases (by omega : d = 0 ∨ d = 1 ∨ d = 2 ∨ d = 3 ∨ d = 4) with rfl | rfl | rfl | rfl | rfl <;> decide
theorem app_nil (t : ByteArray) : t ++ (⟨#[]⟩ : ByteArray) = t := ByteArray.append_empty
theorem nil_app (t : ByteArray) : (⟨#[]⟩ : ByteArray) ++ t = t := ByteArray.empty_append
theorem info_snl (k : Int) (t ti : ByteArray) (n : Int) (c : ByteArray) (l : Bool) (ks : Value) (f o : Int) : (Tryz.prog.info? 27).map (·.size) = some (sN k t ti n c l ks f o).toList.length := info_sn10
theorem info_sna (k : Int) (t ti : ByteArray) (n : Int) (c : ByteArray) (l : Bool) (ks : Value) (f o : Int) : (Tryz.prog.info? 27).map (·.size) = some (sN k t ti n c l ks f o).size := info_sn10
def preIt (m : Nat) (ts : Nat → Bool) : ByteArray := (⟨#[60, 108, 105, 62]⟩ : ByteArray) ++ (if 0 < m ∧ ts 0 = false then (⟨#[10]⟩ : ByteArray) else ⟨#[]⟩)
theorem it_pre (ts : Nat → Bool) (ys : Nat → ByteArray) (m : Nat) : itHTML ts ys m = preIt m ts ++ catY (itPiece ts ys m) m ++ (⟨#[60, 47, 108, 105, 62, 10]⟩ : ByteArray) := rfl
theorem preIt_le (m : Nat) (ts : Nat → Bool) : (preIt m ts).size ≤ 5 := by
  unfold preIt; split <;> decide
theorem pre_yes {m : Nat} {ts : Nat → Bool} (h0 : 0 < m) (h : ts 0 = false) : (⟨#[60, 108, 105, 62, 10]⟩ : ByteArray) = preIt m ts := by
  unfold preIt; rw [if_pos ⟨h0, h⟩]; rfl
theorem pre_no {m : Nat} {ts : Nat → Bool} (h : ts 0 = true) : (⟨#[60, 108, 105, 62]⟩ : ByteArray) = preIt m ts := by
  unfold preIt; rw [if_neg (fun q => by rw [h] at q; exact absurd q.2 (by decide))]; rfl
set_option maxRecDepth 100000 in
set_option maxHeartbeats 2000000 in
theorem itemS_any (d : Nat) (hd : d ≤ 3) (IH : BlockS d) (w : World) (l : Bool) (cs : Array Value) (y : ByteArray) (h : SItem (SB d w) w l cs y) :
    Calls Tryz.prog 44 #[.agg cs, .bool l] w fun e w' => e = .returned (.string y) ∧ Below w.heap.size w w' := by
  obtain ⟨ks, f, o, m, ps, ys, rfl, hm, ⟨h0, _, cs', hrow, hkids⟩, rfl⟩ := h
  rcases hrow with ⟨rfl, rfl⟩ | ⟨g, cap, rfl, _, h1, h2, hlt, hrow⟩
  · omega
  have HROW := hide hrow
  have HK := hide hkids
  have hk0 := (hkids 0 h0).kind
  have c00 : ∀ u, (cs' 0)[0]? = some u → w.cell? ⟨g, 0, none⟩ = some u := fun u hu => by
    have := hrow 0 h0 0 u (by rw [← hu]; simp)
    simpa using this
  have C00 := hide c00
  obtain ⟨Z, hZ⟩ : ∃ Z, Z = itHTML (fun k => tOf l (ps k)) (fun k => yOf l (ps k) (ys k)) m := ⟨_, rfl⟩
  have HZ := hide hZ
  have h0I : (0 : Int) < (m : Int) := by omega
  obtain ⟨T, hT⟩ : ∃ T : Nat → Bool, T = fun k => tOf l (ps k) := ⟨_, rfl⟩
  have HT := hide hT
  rw [← hZ]
  clear hrow hkids hZ c00 hT
  go_enter Tryz.func44, Tryz.ntmps44
  go_upto_region 2 with fail
  go_cut [24] from 10 to 23 (fun s wx => wx = w.alloc (.cells (sN 4 ⟨#[]⟩ ⟨#[]⟩ 0 ⟨#[]⟩ false (.slice (some ⟨g, 0, none⟩) m cap) f o) 27) ∧ ∃ b : Bool, s = .bool b ∧ Hid (T 0 = !b))
  case first =>
    cases l with
    | true =>
      have P1 : Hid (T 0 = !true) := hide (by rw [HT.out]; rfl)
      go_wp2
      go_meet
      case rel => exact ⟨rfl, _, rfl, P1⟩
    | false =>
      rcases hk0 with ⟨ao', kn', kc', f', o', n', is', e1, _, e2, _⟩ | ⟨e2, k', t', ti', n', c', l', ao', kn', kc', f', o', hne, e1⟩
      · have P1 : Hid (T 0 = !false) := hide (by rw [HT.out]; simp [tOf, e2])
        have hc := C00.out _ (by rw [e1]; rfl)
        go_wp2
        go_meet
        case rel => exact ⟨rfl, _, rfl, P1⟩
      · have P1 : Hid (T 0 = !true) := hide (by rw [HT.out]; simp [tOf, e2])
        have hc := C00.out _ (by rw [e1]; rfl)
        have hne' : (k' == 6) = false := by simpa using hne
        have P2 : Hid (T 0 = !(k' != 6)) := hide (by rw [P1.out]; simp [hne])
        go_wp2
        go_meet
        case rel => exact ⟨rfl, _, rfl, P2⟩
  case rest =>
  obtain ⟨rfl, b, rfl, HB⟩ := hcut
  clear C00 hk0
  go_upto_if 24 with fail
  go_cut [5] from 25 to 26 (fun s wx => wx = w.alloc (.cells (sN 4 ⟨#[]⟩ ⟨#[]⟩ 0 ⟨#[]⟩ false (.slice (some ⟨g, 0, none⟩) m cap) f o) 27) ∧ ∃ t : ByteArray, s = .string t ∧ t.size ≤ 5 ∧ Hid (t = preIt m T))
  case first =>
    cases b with
    | true =>
      have P1 := hide (pre_yes h0 HB.out)
      go_wp2
      go_meet
      case rel => exact ⟨rfl, _, rfl, by decide, P1⟩
    | false =>
      have P1 := hide (pre_no (m := m) HB.out)
      go_wp2
      go_meet
      case rel => exact ⟨rfl, _, rfl, by decide, P1⟩
  case rest =>
  obtain ⟨rfl, pre, rfl, hpz, HP⟩ := hcut
  have KB := newB1 w (.cells (sN 4 ⟨#[]⟩ ⟨#[]⟩ 0 ⟨#[]⟩ false (.slice (some ⟨g, 0, none⟩) m cap) f o) 27)
  have hB0 := (Below.refl w.heap.size w).alloc (Nat.le_refl _) (.cells (sN 4 ⟨#[]⟩ ⟨#[]⟩ 0 ⟨#[]⟩ false (.slice (some ⟨g, 0, none⟩) m cap) f o) 27)
  have hlt0 : w.heap.size < (w.alloc (.cells (sN 4 ⟨#[]⟩ ⟨#[]⟩ 0 ⟨#[]⟩ false (.slice (some ⟨g, 0, none⟩) m cap) f o) 27)).heap.size := by rw [World.size_alloc']; omega
  have c7 := (heap_cell KB 7).trans (show _ = some (.slice (some ⟨g, 0, none⟩) m cap) from rfl)
  have c3 := (heap_cell KB 3).trans (show _ = some (.int .i64 0) from rfl)
  generalize w.alloc (.cells (sN 4 ⟨#[]⟩ ⟨#[]⟩ 0 ⟨#[]⟩ false (.slice (some ⟨g, 0, none⟩) m cap) f o) 27) = W0 at KB hB0 hlt0 c7 c3 ⊢
  have HB0 := hide hB0
  obtain ⟨Y, hY⟩ : ∃ Y : Nat → ByteArray, Y = fun k => yOf l (ps k) (ys k) := ⟨_, rfl⟩
  have HY := hide hY
  have HPZ : Hid (∀ k, k ≤ m → (pre ++ catY (itPiece T Y m) k).size ≤ 4000000000) := hide fun k hk => by
    have h3 : ∀ j, j < k → (itPiece T Y m j).size ≤ 1500000001 := fun j hj => by
      have h4 := HK.out j (by omega)
      have h5 : (yOf l (ps j) (ys j)).size ≤ 1500000000 := by
        cases d with
        | zero => exact h4.elim
        | succ d => exact Nat.le_trans (y_le h4 l) (SZ_le (by omega))
      unfold itPiece
      rw [ByteArray.size_append, hY]
      split
      · have : (⟨#[10]⟩ : ByteArray).size = 1 := rfl
        show (yOf l (ps j) (ys j)).size + _ ≤ _
        omega
      · have : (⟨#[]⟩ : ByteArray).size = 0 := rfl
        show (yOf l (ps j) (ys j)).size + _ ≤ _
        omega
    have := cat_le k h3
    rw [ByteArray.size_append]
    have h5 : 1500000001 * k ≤ 1500000001 * 2 := Nat.mul_le_mul_left _ (by omega)
    omega
  clear HB KB hB0 hY
  go_wp2_with (go_at_call 56; refine (taskS_none _).mono ?_; rintro e w' ⟨rfl, rfl⟩)
  go_loopw [5, 7] (fun ov kv wr => ∃ (k : Nat) (t : ByteArray), k ≤ m ∧ ov = .string t ∧ kv = .int .i64 k ∧ t.size ≤ 4000000000 ∧ Hid (t = pre ++ catY (itPiece T Y m) k) ∧ Below W0.heap.size W0 wr) (fun _ kv _ => m - (intOf kv).toNat)
  case atStart => exact ⟨0, pre, by omega, rfl, rfl, by omega, hide (by rw [catY, ByteArray.append_empty]), Below.refl _ _⟩
  case round =>
    obtain ⟨k, t, hk, rfl, rfl, htz, HT2, hb⟩ := hrel
    have hlw : w.heap.size < wr.heap.size := Nat.lt_of_lt_of_le hlt0 hb.size
    have c7w := (hb.cell (p := ⟨w.heap.size, 7, none⟩) hlt0).trans c7
    by_cases hl : k < m
    · have hlI : (k : Int) < (m : Int) := by omega
      have hSB := HK.out k hl
      have hcell : wr.rangeAt g (k * 10) (cs' k).toList := fun j v hv => by
        rw [(HB0.out.trans (hb.mono HB0.out.size)).cell (p := ⟨g, k * 10 + j, none⟩) hlt]; exact HROW.out k hl j v hv
      rcases hSB.kind with ⟨ao2, kn2, kc2, f2, o2, n2, is2, e1, hI, e2, e3⟩ | ⟨e2, k2, t2, ti2, n2, c2, l2, ao2, kn2, kc2, f2, o2, hne, e1⟩
      · have C := hide (inlinesS_any (wr.alloc (.cells (sN 6 ⟨#[]⟩ ⟨#[]⟩ 0 ⟨#[]⟩ false (.slice ao2 kn2 kc2) f2 o2) 27)) (.slice ao2 kn2 kc2) n2 is2 (hI.below ((HB0.out.trans (hb.mono HB0.out.size)).alloc (Nat.le_trans HB0.out.size hb.size) _) (fun _ _ h => h.below ((HB0.out.trans (hb.mono HB0.out.size)).alloc (Nat.le_trans HB0.out.size hb.size) _))))
        have hzz : (catI is2 n2).size ≤ 100000 := catI_le hI.le hI.ok
        obtain ⟨z, hz⟩ : ∃ z, z = catI is2 n2 := ⟨_, rfl⟩
        rw [← hz] at C hzz e2 e3
        have HCE := hide (e1 ▸ hcell)
        have hstep : ∀ u, u = itPiece T Y m k → t ++ u = pre ++ catY (itPiece T Y m) (k + 1) := fun u hu => by rw [HT2.out, hu, catY, ByteArray.append_assoc]
        have hTk : T k = !l := by rw [HT.out]; simp [tOf, e2]
        have hYk : Y k = yOf l (some z) (pHTML z) := by rw [HY.out, ← e2, ← e3]
        clear hcell hI hz e1 e2 e3 hSB
        have hone : (k : Int) + 1 ≤ 9223372036854775807 := by omega
        cases l with
        | true =>
          have hp : itPiece T Y m k = pHTML z := by unfold itPiece; rw [hTk, hYk]; simp [yOf, app_nil]
          have hq : t ++ pHTML z = t ++ (⟨#[60, 112, 62]⟩ : ByteArray) ++ z ++ (⟨#[60, 47, 112, 62, 10]⟩ : ByteArray) := by unfold pHTML; simp only [ByteArray.append_assoc]
          have HS := hide (hstep _ hp.symm)
          rw [hq] at HS
          have HSZ : Hid ((t ++ (⟨#[60, 112, 62]⟩ : ByteArray) ++ z ++ (⟨#[60, 47, 112, 62, 10]⟩ : ByteArray)).size ≤ 4000000000) := hide (by rw [HS.out]; exact HPZ.out (k + 1) hl)
          have HE := nil_app z
          clear hstep hTk hYk hp hq
          by_cases hk0 : k = 0
          · have hkb : ((k : Int) == 0) = true := by rw [hk0]; rfl
            clear hk0
            go_wp2_with (first | (with_reducible refine wpList_load_mid ?_ 27 (.tmp 40) ?_ g (k * 10) ?_ (sN 6 ⟨#[]⟩ ⟨#[]⟩ 0 ⟨#[]⟩ false (.slice ao2 kn2 kc2) f2 o2).toList _ HCE.out Tryz.underlying27 ?_ (info_snl _ _ _ _ _ _ _ _ _) ?_; exact rfl; exact rfl; simp [go_sem]; exact rfl) | (go_at_call 28; refine C.out.mono ?_; rintro e w1 ⟨rfl, hb1⟩; have c7v := (hb1.cell (p := ⟨w.heap.size, 7, none⟩) (Nat.lt_of_lt_of_le hlw (by (rw [World.size_alloc']); exact Nat.le_succ _))).trans (cell_old c7w _)))
            go_roundw
            case rel => exact ⟨k + 1, _, by omega, rfl, by go_num, HSZ.out, HS, (hb.alloc hb.size _).trans (hb1.mono (by rw [World.size_alloc']; have := hb.size; omega))⟩
            case measure => simp [intOf]; omega
          · have hkb : ((k : Int) == 0) = false := by rw [beq_eq_false_iff_ne]; omega
            clear hk0
            go_wp2_with (first | (with_reducible refine wpList_load_mid ?_ 27 (.tmp 40) ?_ g (k * 10) ?_ (sN 6 ⟨#[]⟩ ⟨#[]⟩ 0 ⟨#[]⟩ false (.slice ao2 kn2 kc2) f2 o2).toList _ HCE.out Tryz.underlying27 ?_ (info_snl _ _ _ _ _ _ _ _ _) ?_; exact rfl; exact rfl; simp [go_sem]; exact rfl) | (go_at_call 28; refine C.out.mono ?_; rintro e w1 ⟨rfl, hb1⟩; have c7v := (hb1.cell (p := ⟨w.heap.size, 7, none⟩) (Nat.lt_of_lt_of_le hlw (by (rw [World.size_alloc']); exact Nat.le_succ _))).trans (cell_old c7w _)))
            go_roundw
            case rel => exact ⟨k + 1, _, by omega, rfl, by go_num, HSZ.out, HS, (hb.alloc hb.size _).trans (hb1.mono (by rw [World.size_alloc']; have := hb.size; omega))⟩
            case measure => simp [intOf]; omega
        | false =>
          by_cases hnx : k + 1 < m
          · have hp : itPiece T Y m k = z ++ (⟨#[10]⟩ : ByteArray) := by unfold itPiece; rw [hTk, hYk]; simp [yOf, hnx]
            have hq : t ++ (z ++ (⟨#[10]⟩ : ByteArray)) = t ++ z ++ (⟨#[10]⟩ : ByteArray) := by simp only [ByteArray.append_assoc]
            have HS := hide (hstep _ hp.symm)
            rw [hq] at HS
            have HSZ : Hid ((t ++ z ++ (⟨#[10]⟩ : ByteArray)).size ≤ 4000000000) := hide (by rw [HS.out]; exact HPZ.out (k + 1) hl)
            have HE := nil_app z
            have hnxI : (k : Int) + 1 < (m : Int) := by omega
            clear hstep hTk hYk hp hq
            by_cases hk0 : k = 0
            · have hkb : ((k : Int) == 0) = true := by rw [hk0]; rfl
              clear hk0
              go_wp2_with (first | (with_reducible refine wpList_load_mid ?_ 27 (.tmp 40) ?_ g (k * 10) ?_ (sN 6 ⟨#[]⟩ ⟨#[]⟩ 0 ⟨#[]⟩ false (.slice ao2 kn2 kc2) f2 o2).toList _ HCE.out Tryz.underlying27 ?_ (info_snl _ _ _ _ _ _ _ _ _) ?_; exact rfl; exact rfl; simp [go_sem]; exact rfl) | (go_at_call 28; refine C.out.mono ?_; rintro e w1 ⟨rfl, hb1⟩; have c7v := (hb1.cell (p := ⟨w.heap.size, 7, none⟩) (Nat.lt_of_lt_of_le hlw (by (rw [World.size_alloc']); exact Nat.le_succ _))).trans (cell_old c7w _)))
              go_roundw
              case rel => exact ⟨k + 1, _, by omega, rfl, by go_num, HSZ.out, HS, (hb.alloc hb.size _).trans (hb1.mono (by rw [World.size_alloc']; have := hb.size; omega))⟩
              case measure => simp [intOf]; omega
            · have hkb : ((k : Int) == 0) = false := by rw [beq_eq_false_iff_ne]; omega
              clear hk0
              go_wp2_with (first | (with_reducible refine wpList_load_mid ?_ 27 (.tmp 40) ?_ g (k * 10) ?_ (sN 6 ⟨#[]⟩ ⟨#[]⟩ 0 ⟨#[]⟩ false (.slice ao2 kn2 kc2) f2 o2).toList _ HCE.out Tryz.underlying27 ?_ (info_snl _ _ _ _ _ _ _ _ _) ?_; exact rfl; exact rfl; simp [go_sem]; exact rfl) | (go_at_call 28; refine C.out.mono ?_; rintro e w1 ⟨rfl, hb1⟩; have c7v := (hb1.cell (p := ⟨w.heap.size, 7, none⟩) (Nat.lt_of_lt_of_le hlw (by (rw [World.size_alloc']); exact Nat.le_succ _))).trans (cell_old c7w _)))
              go_roundw
              case rel => exact ⟨k + 1, _, by omega, rfl, by go_num, HSZ.out, HS, (hb.alloc hb.size _).trans (hb1.mono (by rw [World.size_alloc']; have := hb.size; omega))⟩
              case measure => simp [intOf]; omega
          · have hp : itPiece T Y m k = z := by unfold itPiece; rw [hTk, hYk]; simp [yOf, hnx, app_nil]
            have HS := hide (hstep _ hp.symm)
            have HSZ : Hid ((t ++ z).size ≤ 4000000000) := hide (by rw [HS.out]; exact HPZ.out (k + 1) hl)
            have HE := nil_app z
            have hnxI : decide ((k : Int) + 1 < (m : Int)) = false := decide_eq_false (by omega)
            clear hstep hTk hYk hp
            by_cases hk0 : k = 0
            · have hkb : ((k : Int) == 0) = true := by rw [hk0]; rfl
              clear hk0
              go_wp2_with (first | (with_reducible refine wpList_load_mid ?_ 27 (.tmp 40) ?_ g (k * 10) ?_ (sN 6 ⟨#[]⟩ ⟨#[]⟩ 0 ⟨#[]⟩ false (.slice ao2 kn2 kc2) f2 o2).toList _ HCE.out Tryz.underlying27 ?_ (info_snl _ _ _ _ _ _ _ _ _) ?_; exact rfl; exact rfl; simp [go_sem]; exact rfl) | (go_at_call 28; refine C.out.mono ?_; rintro e w1 ⟨rfl, hb1⟩; have c7v := (hb1.cell (p := ⟨w.heap.size, 7, none⟩) (Nat.lt_of_lt_of_le hlw (by (rw [World.size_alloc']); exact Nat.le_succ _))).trans (cell_old c7w _)))
              go_roundw
              case rel => exact ⟨k + 1, _, by omega, rfl, by go_num, HSZ.out, HS, (hb.alloc hb.size _).trans (hb1.mono (by rw [World.size_alloc']; have := hb.size; omega))⟩
              case measure => simp [intOf]; omega
            · have hkb : ((k : Int) == 0) = false := by rw [beq_eq_false_iff_ne]; omega
              clear hk0
              go_wp2_with (first | (with_reducible refine wpList_load_mid ?_ 27 (.tmp 40) ?_ g (k * 10) ?_ (sN 6 ⟨#[]⟩ ⟨#[]⟩ 0 ⟨#[]⟩ false (.slice ao2 kn2 kc2) f2 o2).toList _ HCE.out Tryz.underlying27 ?_ (info_snl _ _ _ _ _ _ _ _ _) ?_; exact rfl; exact rfl; simp [go_sem]; exact rfl) | (go_at_call 28; refine C.out.mono ?_; rintro e w1 ⟨rfl, hb1⟩; have c7v := (hb1.cell (p := ⟨w.heap.size, 7, none⟩) (Nat.lt_of_lt_of_le hlw (by (rw [World.size_alloc']); exact Nat.le_succ _))).trans (cell_old c7w _)))
              go_roundw
              case rel => exact ⟨k + 1, _, by omega, rfl, by go_num, HSZ.out, HS, (hb.alloc hb.size _).trans (hb1.mono (by rw [World.size_alloc']; have := hb.size; omega))⟩
              case measure => simp [intOf]; omega
      · have C := hide (IH (wr.alloc (.cells (cs' k) 27)) (cs' k) (ps k) (ys k) (hSB.below ((HB0.out.trans (hb.mono HB0.out.size)).alloc (Nat.le_trans HB0.out.size hb.size) _)))
        have hyz : (ys k).size ≤ 1500000000 := Nat.le_trans hSB.le (SZ_le (by omega))
        have hp : itPiece T Y m k = ys k := by unfold itPiece; rw [HT.out, HY.out]; simp [tOf, yOf, e2, app_nil]
        obtain ⟨y, hy⟩ : ∃ y, y = ys k := ⟨_, rfl⟩
        rw [← hy] at C hyz hp
        rw [e1] at C
        have HCE := hide (e1 ▸ hcell)
        have HS : Hid (t ++ y = pre ++ catY (itPiece T Y m) (k + 1)) := hide (by rw [HT2.out, ← hp, catY, ByteArray.append_assoc])
        have HSZ : Hid ((t ++ y).size ≤ 4000000000) := hide (by rw [HS.out]; exact HPZ.out (k + 1) hl)
        have hneb : (k2 == 6) = false := by simpa using hne
        clear hcell hp e1 e2 hSB hy hne
        go_wp2_with (first | (with_reducible refine wpList_load_mid ?_ 27 (.tmp 40) ?_ g (k * 10) ?_ (sN k2 t2 ti2 n2 c2 l2 (.slice ao2 kn2 kc2) f2 o2).toList _ HCE.out Tryz.underlying27 ?_ (info_snl _ _ _ _ _ _ _ _ _) ?_; exact rfl; exact rfl; simp [go_sem]; exact rfl) | (go_at_call 13; refine C.out.mono ?_; rintro e w1 ⟨rfl, hb1⟩; have c7v := (hb1.cell (p := ⟨w.heap.size, 7, none⟩) (Nat.lt_of_lt_of_le hlw (by (rw [World.size_alloc']); exact Nat.le_succ _))).trans (cell_old c7w _)))
        go_roundw
        case rel => exact ⟨k + 1, _, by omega, rfl, by go_num, HSZ.out, HS, (hb.alloc hb.size _).trans (hb1.mono (by rw [World.size_alloc']; have := hb.size; omega))⟩
        case measure => simp [intOf]; omega
    · obtain rfl : k = m := by omega
      have hlI : ¬ ((k : Int) < (k : Int)) := by omega
      have HF : Hid (Z = t ++ (⟨#[60, 47, 108, 105, 62, 10]⟩ : ByteArray)) := hide (by rw [HZ.out, it_pre, ← HT.out, ← HY.out, HT2.out, HP.out])
      go_wp2
      go_ret
      exact ⟨ret_str HF.out.symm, HB0.out.trans (hb.mono HB0.out.size)⟩
end Go.Proofs.YtipniinmajoolaaGreatDoor
namespace Go.Proofs.YtipniinmajoolaaGreatDoor
open Go.RowKit Go.Sort
theorem SItem.le {d : Nat} {w : World} {l : Bool} {cs : Array Value} {y : ByteArray} (hd : d ≤ 3) (h : SItem (SB d w) w l cs y) : y.size ≤ 3000000020 := by
  obtain ⟨ks, f, o, m, ps, ys, _, hm, ⟨_, _, cs', _, hk⟩, rfl⟩ := h
  refine it_le (M := 1500000000) hm (fun k hk2 => ?_)
  have h4 := hk k hk2
  cases d with
  | zero => exact h4.elim
  | succ d => exact Nat.le_trans (y_le h4 l) (SZ_le (by omega))
theorem SItem.shape {d : Nat} {w : World} {l : Bool} {cs : Array Value} {y : ByteArray} (h : SItem (SB d w) w l cs y) : ∃ (ao : Option Addr) (kn kc : Nat) (f o : Int), cs = sN 4 ⟨#[]⟩ ⟨#[]⟩ 0 ⟨#[]⟩ false (.slice ao kn kc) f o := by
  obtain ⟨ks, f, o, m, ps, ys, rfl, _, ⟨_, _, _, hK, _⟩, _⟩ := h
  obtain ⟨ao, kn, kc, rfl⟩ := hK.shape
  exact ⟨_, _, _, _, _, rfl⟩
/-- The list's tag and attribute. -/
def TagOf (num : Int) (tag attr : ByteArray) : Prop := ∀ z, lHTML num z = (⟨#[60]⟩ : ByteArray) ++ tag ++ attr ++ (⟨#[62, 10]⟩ : ByteArray) ++ z ++ (⟨#[60, 47]⟩ : ByteArray) ++ tag ++ (⟨#[62, 10]⟩ : ByteArray)
theorem tag_ul {num : Int} (h : num < 0) : TagOf num ⟨#[117, 108]⟩ ⟨#[]⟩ := fun z => by
  unfold lHTML
  rw [if_pos h]
  have e1 : (⟨#[60]⟩ : ByteArray) ++ (⟨#[117, 108]⟩ : ByteArray) ++ (⟨#[]⟩ : ByteArray) ++ (⟨#[62, 10]⟩ : ByteArray) = ⟨#[60, 117, 108, 62, 10]⟩ := rfl
  have e2 : (⟨#[60, 47, 117, 108, 62, 10]⟩ : ByteArray) = (⟨#[60, 47]⟩ : ByteArray) ++ (⟨#[117, 108]⟩ : ByteArray) ++ (⟨#[62, 10]⟩ : ByteArray) := rfl
  rw [e1, e2]; simp only [ByteArray.append_assoc]
theorem tag_ol {num : Int} (h : ¬ num < 0) : TagOf num ⟨#[111, 108]⟩ (startH num) := fun z => by
  unfold lHTML
  rw [if_neg h]
  have e1 : (⟨#[60]⟩ : ByteArray) ++ (⟨#[111, 108]⟩ : ByteArray) = ⟨#[60, 111, 108]⟩ := rfl
  have e2 : (⟨#[60, 47, 111, 108, 62, 10]⟩ : ByteArray) = (⟨#[60, 47]⟩ : ByteArray) ++ (⟨#[111, 108]⟩ : ByteArray) ++ (⟨#[62, 10]⟩ : ByteArray) := rfl
  rw [e1, e2]; simp only [ByteArray.append_assoc]
theorem listS_any (d : Nat) (hd : d ≤ 3) (IH : BlockS d) (w : World) (ks : Value) (f o num : Int) (c : ByteArray) (l : Bool) (n : Nat) (zs : Nat → ByteArray) (hm : markOk num c)
    (hK : Kids 10 (fun cs _ y => SItem (SB d w) w l cs y) w ks n (fun _ => none) zs) :
    Calls Tryz.prog 26 #[.agg (sN 3 ⟨#[]⟩ ⟨#[]⟩ num c l ks f o)] w fun e w' => e = .returned (.string (lHTML num (catY zs n))) ∧ Below w.heap.size w w' := by
  obtain ⟨h0, h4, cs', hrow, hkids⟩ := hK
  rcases hrow with ⟨rfl, rfl⟩ | ⟨g, cap, rfl, _, h1, h2, hlt, hrow⟩
  · omega
  have HROW := hide hrow
  have HK := hide hkids
  have hnum : num = -1 ∨ 0 ≤ num ∧ num < 30 := by
    rcases hm with ⟨h, _⟩ | ⟨h, h', _⟩
    · exact .inl h
    · exact .inr ⟨h, h'⟩
  clear hrow hkids hm
  go_enter Tryz.func26, Tryz.ntmps26
  go_upto_if 9 with fail
  go_cut [3, 4] from 10 to 17 (fun s3 s4 wx => Below (w.alloc (.cells (sN 3 ⟨#[]⟩ ⟨#[]⟩ num c l (.slice (some ⟨g, 0, none⟩) n cap) f o) 27)).heap.size (w.alloc (.cells (sN 3 ⟨#[]⟩ ⟨#[]⟩ num c l (.slice (some ⟨g, 0, none⟩) n cap) f o) 27)) wx ∧ ∃ tag attr : ByteArray, s3 = .string tag ∧ s4 = .string attr ∧ tag.size ≤ 2 ∧ attr.size ≤ 20 ∧ Hid (TagOf num tag attr))
  case first =>
    rcases hnum with rfl | ⟨hn0, hn1⟩
    · have HT := hide (tag_ul (num := -1) (by decide))
      go_wp2
      go_meet
      case rel => exact ⟨Below.refl _ _, _, _, rfl, rfl, by decide, by decide, HT⟩
    · obtain ⟨q, rfl⟩ : ∃ q : Nat, num = (q : Int) := ⟨num.toNat, by omega⟩
      by_cases hq1 : q = 1
      · subst hq1
        have HT := hide (tag_ol (num := ((1 : Nat) : Int)) (by decide))
        go_wp2
        go_meet
        case rel => exact ⟨Below.refl _ _, _, _, rfl, rfl, by decide, by decide, HT⟩
      · have HT := hide (tag_ol (num := (q : Int)) (by omega))
        have D1 := hide (fun wx => digits_any q wx (by omega))
        have hS : startH (q : Int) = (⟨#[32, 115, 116, 97, 114, 116, 61, 34]⟩ : ByteArray) ++ dig q ++ (⟨#[34]⟩ : ByteArray) := by
          unfold startH; rw [if_neg (by omega)]; rfl
        rw [hS] at HT
        have hds := dig_le q
        have hqb : ((q : Int) == 1) = false := by rw [beq_eq_false_iff_ne]; omega
        obtain ⟨D, hD⟩ : ∃ D, D = dig q := ⟨_, rfl⟩
        rw [← hD] at D1 HT hds
        clear hS hD
        go_wp2_with (go_at_call 27; refine (D1.out _).mono ?_; rintro e w1 ⟨rfl, hb1⟩)
        go_meet
        case rel => exact ⟨hb1, _, _, rfl, rfl, by decide, by (have e : ∀ a b : ByteArray, (a ++ b).size = a.size + b.size := fun _ _ => ByteArray.size_append); simp only [e]; show 8 + D.size + 1 ≤ 20; omega, HT⟩
  case rest =>
  obtain ⟨hb, tag, attr, rfl, rfl, htag, hattr, HT⟩ := hcut
  have KB := newB1 w (.cells (sN 3 ⟨#[]⟩ ⟨#[]⟩ num c l (.slice (some ⟨g, 0, none⟩) n cap) f o) 27)
  have hB0 : Below w.heap.size w wc := ((Below.refl w.heap.size w).alloc (Nat.le_refl _) _).trans (hb.mono (by rw [World.size_alloc']; omega))
  have hlt0 : w.heap.size < wc.heap.size := Nat.lt_of_lt_of_le (by rw [World.size_alloc']; omega) hb.size
  have c7 : wc.cell? ⟨w.heap.size, 7, none⟩ = some (.slice (some ⟨g, 0, none⟩) n cap) := (hb.cell (p := ⟨w.heap.size, 7, none⟩) (show w.heap.size < _ by rw [World.size_alloc']; omega)).trans (heap_cell KB 7)
  have c5 : wc.cell? ⟨w.heap.size, 5, none⟩ = some (.bool l) := (hb.cell (p := ⟨w.heap.size, 5, none⟩) (show w.heap.size < _ by rw [World.size_alloc']; omega)).trans (heap_cell KB 5)
  have HB0 := hide hB0
  obtain ⟨pre, hpre⟩ : ∃ pre, pre = (⟨#[60]⟩ : ByteArray) ++ tag ++ attr ++ (⟨#[62, 10]⟩ : ByteArray) := ⟨_, rfl⟩
  have hpz : pre.size ≤ 25 := by
    rw [hpre]
    have e : ∀ a b : ByteArray, (a ++ b).size = a.size + b.size := fun _ _ => ByteArray.size_append
    simp only [e]
    show 1 + tag.size + attr.size + 2 ≤ 25
    omega
  have HPRE := hide hpre
  have HPZ : Hid (∀ k, k ≤ n → (pre ++ catY zs k).size ≤ 20000000000) := hide fun k hk => by
    have := cat_le k (ys := zs) (m := 3000000020) (fun j hj => (HK.out j (by omega)).le hd)
    have h5 : 3000000020 * k ≤ 3000000020 * 4 := Nat.mul_le_mul_left _ (by omega)
    rw [ByteArray.size_append]
    omega
  clear KB hB0 hb hpre
  go_wp2_with fail
  go_loopw [5, 6] (fun ov kv wr => ∃ (k : Nat) (t : ByteArray), k ≤ n ∧ ov = .string t ∧ kv = .int .i64 k ∧ t.size ≤ 20000000000 ∧ Hid (t = pre ++ catY zs k) ∧ Below wc.heap.size wc wr) (fun _ kv _ => n - (intOf kv).toNat)
  case atStart => exact ⟨0, pre, by omega, by rw [HPRE.out], rfl, by omega, hide (by rw [catY, ByteArray.append_empty]), Below.refl _ _⟩
  case round =>
    obtain ⟨k, t, hk, rfl, rfl, htz, HT2, hb⟩ := hrel
    have c7w := (hb.cell (p := ⟨w.heap.size, 7, none⟩) hlt0).trans c7
    have c5w := (hb.cell (p := ⟨w.heap.size, 5, none⟩) hlt0).trans c5
    by_cases hl : k < n
    · have hlI : (k : Int) < (n : Int) := by omega
      have hSI := HK.out k hl
      have hcell : wr.rangeAt g (k * 10) (cs' k).toList := fun j v hv => by
        rw [(HB0.out.trans (hb.mono HB0.out.size)).cell (p := ⟨g, k * 10 + j, none⟩) hlt]; exact HROW.out k hl j v hv
      have hzk := hSI.le hd
      have C := hide (fun wx (hbx : Below w.heap.size w wx) => itemS_any d hd IH wx l (cs' k) (zs k) (hSI.moved hbx (fun _ _ _ h => h.below hbx)))
      obtain ⟨ao2, kn2, kc2, f2, o2, e1⟩ := hSI.shape
      rw [e1] at C hcell
      obtain ⟨y, hy⟩ : ∃ y, y = zs k := ⟨_, rfl⟩
      have HS : Hid (t ++ y = pre ++ catY zs (k + 1)) := hide (by rw [HT2.out, hy, catY, ByteArray.append_assoc])
      have HSZ : Hid ((t ++ y).size ≤ 20000000000) := hide (by rw [HS.out]; exact HPZ.out (k + 1) hl)
      rw [← hy] at C hzk
      have F1 := hide (fun dr os => Calls.regrown_of (w := wr) (C.out _ ((HB0.out.trans (hb.mono HB0.out.size)).trans ((below_regrown wr dr os).mono (Nat.le_trans HB0.out.size hb.size)))))
      have HB1 := hide (fun dr os => hb.trans ((below_regrown wr dr os).mono hb.size))
      have r7 := cell_regrown c7w
      have r5 := cell_regrown c5w
      have r0 := cell_regrown (a := ⟨g, k * 10, none⟩) (hcell 0 _ rfl)
      have r1 := cell_regrown (hcell 1 _ rfl)
      have r2 := cell_regrown (hcell 2 _ rfl)
      have r3 := cell_regrown (hcell 3 _ rfl)
      have r4 := cell_regrown (hcell 4 _ rfl)
      have q5 := cell_regrown (hcell 5 _ rfl)
      have r6 := cell_regrown (hcell 6 _ rfl)
      have q7 := cell_regrown (hcell 7 _ rfl)
      have r8 := cell_regrown (hcell 8 _ rfl)
      have r9 := cell_regrown (hcell 9 _ rfl)
      clear hcell e1 hSI hy C
      go_wp2_with fail
      refine wp_region_quiet_below (by kernel_rfl) (by kernel_rfl) ?_
      repeat (go_big_quiet_step (first | exact F1.out _ _))
      refine wpQuiet_nil ?_
      intro _ hw'
      obtain ⟨⟨dq, osq⟩, hw''⟩ := hw'
      subst hw''
      go_wp2
      go_roundw
      case rel => exact ⟨k + 1, _, by omega, rfl, by go_num, HSZ.out, HS, HB1.out dq osq⟩
      case measure => simp [intOf]; omega
    · obtain rfl : k = n := by omega
      have hlI : ¬ ((k : Int) < (k : Int)) := by omega
      have HF : Hid (lHTML num (catY zs k) = t ++ (⟨#[60, 47]⟩ : ByteArray) ++ tag ++ (⟨#[62, 10]⟩ : ByteArray)) := hide (by rw [HT.out, HT2.out, HPRE.out])
      go_wp2
      go_ret
      exact ⟨ret_str HF.out.symm, HB0.out.trans (hb.mono HB0.out.size)⟩
end Go.Proofs.YtipniinmajoolaaGreatDoor
namespace Go.Proofs.YtipniinmajoolaaGreatDoor
open Go.RowKit Go.Sort
theorem blocksS_any (d : Nat) (hd : d ≤ 4) (IH : BlockS d) (w : World) (ks : Value) (n : Nat) (ps : Nat → Option ByteArray) (ys : Nat → ByteArray) (hK : Kids 10 (SB d w) w ks n ps ys) :
    Calls Tryz.prog 8 #[ks] w fun e w' => e = .returned (.string (catY ys n)) ∧ Below w.heap.size w w' := by
  obtain ⟨h0, h4, cs, hr, hk⟩ := hK
  exact blocksS_of w ks n 1500000000 cs ys hr (fun k h => (hk k h).size) (by omega) (fun k h => Nat.le_trans (hk k h).le (SZ_le hd)) (fun k h wx hb => IH wx _ _ _ ((hk k h).below hb))
theorem h_assoc (n : Nat) (z : ByteArray) : hHTML n z = (⟨#[60]⟩ : ByteArray) ++ ((⟨#[104]⟩ : ByteArray) ++ dig n) ++ (⟨#[62]⟩ : ByteArray) ++ z ++ (⟨#[60, 47]⟩ : ByteArray) ++ ((⟨#[104]⟩ : ByteArray) ++ dig n) ++ (⟨#[62, 10]⟩ : ByteArray) := by
  unfold hHTML
  have e1 : (⟨#[60, 104]⟩ : ByteArray) = (⟨#[60]⟩ : ByteArray) ++ (⟨#[104]⟩ : ByteArray) := rfl
  have e2 : (⟨#[60, 47, 104]⟩ : ByteArray) = (⟨#[60, 47]⟩ : ByteArray) ++ (⟨#[104]⟩ : ByteArray) := rfl
  rw [e1, e2]; simp only [ByteArray.append_assoc]
theorem block_S : ∀ d, d ≤ 4 → BlockS d
  | 0, _ => fun _ _ _ _ h => h.elim
  | d + 1, hd => by
    have IH := block_S d (by omega)
    intro w cs p y h
    have hB0 : ∀ o : Obj, Below w.heap.size w (w.alloc o) := fun o => (Below.refl _ _).alloc (Nat.le_refl _) _
    rcases h.2 with ⟨ks, f, o, n, is, rfl, hI, _, rfl⟩ | ⟨ks, f, o, n, hh, is, rfl, hh1, hh6, hI, _, rfl⟩ | ⟨f, o, rfl, _, rfl⟩ | ⟨t, x, f, o, rfl, hC, _, rfl⟩ | ⟨ks, f, o, n, ps, ys, rfl, hK, _, rfl⟩ | ⟨ks, f, o, num, c, l, n, zs, rfl, hm, hK, _, rfl⟩
    · have E1 := hide (inlinesS_any (w.alloc (.cells (sN 6 ⟨#[]⟩ ⟨#[]⟩ 0 ⟨#[]⟩ false ks f o) 27)) ks n is (hI.below (hB0 _) fun _ _ h => h.below (hB0 _)))
      have hz : (catI is n).size ≤ 100000 := catI_le hI.le hI.ok
      unfold pHTML
      obtain ⟨z, hzz⟩ : ∃ z, z = catI is n := ⟨_, rfl⟩
      rw [← hzz] at E1 hz ⊢
      clear h hI hzz
      go_enter Tryz.func13, Tryz.ntmps13
      go_wp2_with (go_at_call 28; refine E1.out.mono ?_; rintro e w1 ⟨rfl, hb1⟩)
      go_ret
      exact ⟨rfl, (hB0 _).trans (hb1.mono (by rw [World.size_alloc']; omega))⟩
    · have E2 := hide (fun wx (hb : Below w.heap.size w wx) => inlinesS_any wx ks n is (hI.below hb fun _ _ h => h.below hb))
      have hz : (catI is n).size ≤ 100000 := catI_le hI.le hI.ok
      have D1 := hide (fun wx => digits_any hh wx (by omega))
      have hds := dig_le hh
      rw [h_assoc]
      obtain ⟨z, hzz⟩ : ∃ z, z = catI is n := ⟨_, rfl⟩
      rw [← hzz] at E2 hz ⊢
      obtain ⟨D, hD⟩ : ∃ D, D = dig hh := ⟨_, rfl⟩
      rw [← hD] at D1 hds ⊢
      have HB0 := hide (hB0 (.cells (sN 5 ⟨#[]⟩ ⟨#[]⟩ hh ⟨#[]⟩ false ks f o) 27))
      have KB := hide (newB1 w (.cells (sN 5 ⟨#[]⟩ ⟨#[]⟩ hh ⟨#[]⟩ false ks f o) 27))
      clear h hI hzz hD hB0
      go_enter Tryz.func13, Tryz.ntmps13
      go_wp2_with (first | (go_at_call 27; refine (D1.out _).mono ?_; rintro e w1 ⟨rfl, hb1⟩; have c7 := (hb1.cell (p := ⟨w.heap.size, 7, none⟩) (show w.heap.size < _ by (rw [World.size_alloc']; omega))).trans (heap_cell KB.out 7); have B1 := hide (HB0.out.trans (hb1.mono HB0.out.size))) | (go_at_call 28; refine (E2.out _ B1.out).mono ?_; rintro e w2 ⟨rfl, hb2⟩))
      go_ret
      exact ⟨rfl, B1.out.trans (hb2.mono B1.out.size)⟩
    · clear h
      go_enter Tryz.func13, Tryz.ntmps13
      go_wp2
      go_ret
      exact ⟨rfl, hB0 _⟩
    · obtain ⟨h1, h2, h3, h4, _⟩ := hC
      have F1 := hide (fun wx => lang_any t wx h1 h2)
      have F2 := hide (fun wx => escS_any x wx (by omega))
      have hlz : (langH t).size ≤ 100 := by
        unfold langH
        split
        · decide
        · have := esc_le t t.size
          have e : ∀ a b : ByteArray, (a ++ b).size = a.size + b.size := fun _ _ => ByteArray.size_append
          simp only [e]
          show 17 + _ + 1 ≤ 100
          omega
      have hxz : (escF x x.size).size ≤ 600 := Nat.le_trans (esc_le x x.size) (by omega)
      unfold cHTML
      obtain ⟨X, hX⟩ : ∃ X, X = escF x x.size := ⟨_, rfl⟩
      obtain ⟨L, hL⟩ : ∃ L, L = langH t := ⟨_, rfl⟩
      rw [← hX] at F2 hxz ⊢
      rw [← hL] at F1 hlz ⊢
      have HB0 := hide (hB0 (.cells (sN 7 x t 0 ⟨#[]⟩ false (.slice none 0 0) f o) 27))
      clear h hX hL hB0 h2
      go_enter Tryz.func13, Tryz.ntmps13
      go_wp2_with fail
      go_quiet (first | exact quiet_same (F1.out _) | exact quiet_same (F2.out _))
      go_wp2
      go_ret
      exact ⟨rfl, below_drewN HB0.out _⟩
    · have E1 := hide (blocksS_any d (by omega) IH (w.alloc (.cells (sN 2 ⟨#[]⟩ ⟨#[]⟩ 0 ⟨#[]⟩ false ks f o) 27)) ks n ps ys (hK.moved (hB0 _) (fun _ _ _ h => h.below (hB0 _))))
      have hz : (catY ys n).size ≤ 6000000000 := by
        obtain ⟨h0, h4, cs, hr, hk⟩ := hK
        exact Nat.le_trans (cat_le n (m := 1500000000) (fun k h => Nat.le_trans (hk k h).le (SZ_le (by omega)))) (by omega)
      unfold qHTML
      obtain ⟨z, hzz⟩ : ∃ z, z = catY ys n := ⟨_, rfl⟩
      rw [← hzz] at E1 hz ⊢
      clear h hK hzz
      go_enter Tryz.func13, Tryz.ntmps13
      go_wp2_with (go_at_call 8; refine E1.out.mono ?_; rintro e w1 ⟨rfl, hb1⟩)
      go_ret
      exact ⟨rfl, (hB0 _).trans (hb1.mono (by rw [World.size_alloc']; omega))⟩
    · have E1 := hide (listS_any d (by omega) IH (w.alloc (.cells (sN 3 ⟨#[]⟩ ⟨#[]⟩ num c l ks f o) 27)) ks f o num c l n zs hm (hK.moved (hB0 _) (fun _ _ _ h => h.moved (hB0 _) (fun _ _ _ h => h.below (hB0 _)))))
      obtain ⟨_, _, _, hr, _⟩ := hK
      obtain ⟨ao, kn, kc, rfl⟩ := hr.shape
      clear h hr
      go_enter Tryz.func13, Tryz.ntmps13
      go_wp2_with (go_at_call 26; refine E1.out.mono ?_; rintro e w1 ⟨rfl, hb1⟩)
      go_ret
      exact ⟨rfl, (hB0 _).trans (hb1.mono (by rw [World.size_alloc']; omega))⟩
end Go.Proofs.YtipniinmajoolaaGreatDoor
