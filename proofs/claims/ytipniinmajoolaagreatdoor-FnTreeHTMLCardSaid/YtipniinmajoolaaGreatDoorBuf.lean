/- Escaping a text into a bytes.Buffer: what the package's pairs write. Conditions: as each states them. -/
import Derived.Test.YtipniinmajoolaaGreatDoorShelf
import Derived.Test.YtipniinmajoolaaGreatDoorBase
import Derived.Lib.BufferKept
import Derived.Lib.OthersKept
import Derived.WalkMore
import Derived.Deep.LoopGhost
import Derived.Deep.QuietTactic
import Derived.BigQuiet
namespace Go.Proofs.YtipniinmajoolaaGreatDoor
open Go.RowKit
/-- The buffer holds the text. -/
def HoldsU (B b : Nat) (t : ByteArray) (w : World) : Prop := Lib.IsBuffer 55 5 B b (Lib.byteCells t.data.toList) w
theorem byteCells_app (s t : ByteArray) : Lib.byteCells (s ++ t).data.toList = Lib.byteCells s.data.toList ++ Lib.byteCells t.data.toList := by
  rw [← Lib.byteCells_append]; simp [ByteArray.data_append]
theorem byteCells_piece (s : ByteArray) {k : Nat} (h : k < s.size) : Lib.byteCells (s.extract k (k + 1)).data.toList = [.int .u8 (bt s k)] := by
  have hz : (s.extract k (k + 1)).size = 1 := by rw [ByteArray.size_extract]; omega
  have h0 := bt_list (s.extract k (k + 1)) (k := 0) (by omega)
  rw [bt_extract s k (k + 1) 0 (by omega) (by omega), Nat.add_zero] at h0
  have hl : (s.extract k (k + 1)).data.toList.length = 1 := hz
  match hm : (s.extract k (k + 1)).data.toList, hl with
  | [x], _ =>
    rw [hm] at h0
    have hx : x = UInt8.ofNat (bt s k).toNat := by simpa using h0
    unfold Lib.byteCells
    rw [hx]
    have h1 := bt_nonneg s k
    have h2 := bt_le s k
    simp only [List.map_cons, List.map_nil, UInt8.toNat_ofNat', List.cons.injEq, and_true, Value.int.injEq, true_and]
    omega
theorem holdsU_len (t : ByteArray) : (Lib.byteCells t.data.toList).length = t.size := by rw [Lib.byteCells_length]; rfl
theorem holdsU_fresh (w : World) : HoldsU w.heap.size w.heap.size ByteArray.empty (w.alloc (.cells #[.slice none 0 0, .int .i64 0, .int .i8 0] 55)) := Lib.fresh_isBuffer _ _ _
theorem writeU_byte (B b : Nat) (t s : ByteArray) (k : Nat) (w : World) (h : HoldsU B b t w) (hk : k < s.size) (hlen : t.size + 1 ≤ 140737488355328) (hBw : B ≤ w.heap.size) :
    Calls Tryz.prog 114 #[.pointer (some ⟨b, 0, none⟩), .int .u8 (bt s k)] w fun e w' => e = .returned .nilIface ∧ HoldsU B b (t ++ s.extract k (k + 1)) w' ∧ Below B w w' ∧ Lib.OthersKept 5 (some b) w w' := by
  refine (Tryz.Buffer_WriteByte_k B b _ (bt s k) w h hBw (Lib.byteCells_one _) (by rw [holdsU_len]; exact hlen)).mono fun e w' h => ⟨h.1, ?_, h.2.2⟩
  unfold HoldsU
  rw [byteCells_app, byteCells_piece s hk]
  exact h.2.1
theorem writeU_string (B b : Nat) (t s : ByteArray) (w : World) (h : HoldsU B b t w) (hlen : t.size + s.size ≤ 140737488355328) (hBw : B ≤ w.heap.size) :
    Calls Tryz.prog 88 #[.pointer (some ⟨b, 0, none⟩), .string s] w fun e w' => e = .returned (.tuple #[.int .i64 s.size, .nilIface]) ∧ HoldsU B b (t ++ s) w' ∧ Below B w w' ∧ Lib.OthersKept 5 (some b) w w' := by
  refine (Tryz.Buffer_WriteString_k B b _ s w h hBw (Lib.byteCells_one _) (by rw [holdsU_len]; exact hlen)).mono fun e w' h => ⟨h.1, ?_, h.2.2⟩
  unfold HoldsU
  rw [byteCells_app]
  exact h.2.1
theorem stringU (B b : Nat) (t : ByteArray) (w : World) (h : HoldsU B b t w) :
    Calls Tryz.prog 16 #[.pointer (some ⟨b, 0, none⟩)] w fun e w' => e = .returned (.string t) ∧ ∃ n, w' = w.drewN n := Tryz.Buffer_String B b t.data.toList w h
theorem HoldsU.drewN {B b : Nat} {t : ByteArray} {w : World} (h : HoldsU B b t w) (n : Nat) : HoldsU B b t (w.drewN n) := h
/-! The pairs. -/
def pairsV : Array Value := #[.string ⟨#[34]⟩, .string ⟨#[38, 113, 117, 111, 116, 59]⟩, .string ⟨#[38]⟩, .string ⟨#[38, 97, 109, 112, 59]⟩, .string ⟨#[60]⟩, .string ⟨#[38, 108, 116, 59]⟩, .string ⟨#[62]⟩, .string ⟨#[38, 103, 116, 59]⟩]
def PairsAt (g : Nat) (w : World) : Prop := w.heap[g]? = some (.cells pairsV 9 (0, 0))
theorem PairsAt.kept {g b : Nat} {w w' : World} (h : PairsAt g w) (hb : g ≠ b) (hk : Lib.OthersKept 5 (some b) w w') : PairsAt g w' :=
  hk g _ h (fun e => hb (Option.some.inj e)) (fun c fz e => by injection e with _ e2 _; exact absurd e2 (by decide))
def keyS : Nat → ByteArray | 0 => ⟨#[34]⟩ | 1 => ⟨#[38]⟩ | 2 => ⟨#[60]⟩ | _ => ⟨#[62]⟩
def keyI : Nat → Int | 0 => 34 | 1 => 38 | 2 => 60 | _ => 62
def valS : Nat → ByteArray | 0 => ⟨#[38, 113, 117, 111, 116, 59]⟩ | 1 => ⟨#[38, 97, 109, 112, 59]⟩ | 2 => ⟨#[38, 108, 116, 59]⟩ | _ => ⟨#[38, 103, 116, 59]⟩
/-- The byte's text. -/
def oneS (s : ByteArray) (k : Nat) : ByteArray := if bt s k = 34 then valS 0 else if bt s k = 38 then valS 1 else if bt s k = 60 then valS 2 else if bt s k = 62 then valS 3 else s.extract k (k + 1)
def escF (s : ByteArray) : Nat → ByteArray
  | 0 => ByteArray.empty
  | k + 1 => escF s k ++ oneS s k
theorem esc_step (t s : ByteArray) (k : Nat) : t ++ escF s (k + 1) = t ++ escF s k ++ oneS s k := by rw [escF, ByteArray.append_assoc]
theorem one_yes {s : ByteArray} {k m : Nat} (hm : m < 4) (h : bt s k = keyI m) : oneS s k = valS m := by
  unfold oneS
  match m, hm with
  | 0, _ => rw [h]; rfl
  | 1, _ => rw [h]; rfl
  | 2, _ => rw [h]; rfl
  | 3, _ => rw [h]; rfl
theorem one_no {s : ByteArray} {k : Nat} (h : ∀ m, m < 4 → bt s k ≠ keyI m) : oneS s k = s.extract k (k + 1) := by
  unfold oneS
  rw [if_neg (show bt s k ≠ 34 from h 0 (by omega)), if_neg (show bt s k ≠ 38 from h 1 (by omega)), if_neg (show bt s k ≠ 60 from h 2 (by omega)), if_neg (show bt s k ≠ 62 from h 3 (by omega))]
theorem one_le (s : ByteArray) (k : Nat) : (oneS s k).size ≤ 6 := by
  unfold oneS
  split; · decide
  split; · decide
  split; · decide
  split; · decide
  rw [ByteArray.size_extract]; omega
theorem esc_le (s : ByteArray) : ∀ k, (escF s k).size ≤ 6 * k
  | 0 => by simp [escF]
  | k + 1 => by
    have := esc_le s k
    have := one_le s k
    rw [escF, ByteArray.size_append]; omega
theorem pairs_key {g : Nat} {w : World} (h : PairsAt g w) : ∀ m, m < 4 → w.cell? ⟨g, 2 * m, none⟩ = some (.string (keyS m)) := by
  intro m hm
  unfold PairsAt at h
  simp only [World.cell?, h]
  match m, hm with
  | 0, _ => rfl
  | 1, _ => rfl
  | 2, _ => rfl
  | 3, _ => rfl
theorem pairs_val {g : Nat} {w : World} (h : PairsAt g w) : ∀ m, m < 4 → w.cell? ⟨g, 2 * m + 1, none⟩ = some (.string (valS m)) := by
  intro m hm
  unfold PairsAt at h
  simp only [World.cell?, h]
  match m, hm with
  | 0, _ => rfl
  | 1, _ => rfl
  | 2, _ => rfl
  | 3, _ => rfl
theorem key_bt : ∀ m, m < 4 → (keyS m).size = 1 ∧ bt (keyS m) 0 = keyI m := by
  intro m hm
  match m, hm with
  | 0, _ => exact ⟨rfl, by decide⟩
  | 1, _ => exact ⟨rfl, by decide⟩
  | 2, _ => exact ⟨rfl, by decide⟩
  | 3, _ => exact ⟨rfl, by decide⟩
theorem val_le : ∀ m, (valS m).size ≤ 6
  | 0 => by decide
  | 1 => by decide
  | 2 => by decide
  | _ + 3 => by show (⟨#[38, 103, 116, 59]⟩ : ByteArray).size ≤ 6; decide
set_option maxHeartbeats 2000000 in
set_option maxRecDepth 100000 in
theorem zzWrite_any (B b g : Nat) (t s : ByteArray) (w : World) (h : HoldsU B b t w) (hB : B ≤ w.heap.size) (hg : g ≠ b) (hP : PairsAt g w) (hs : s.size ≤ 1000000) (ht : t.size ≤ 100000000000000) :
    Calls Tryz.prog 116 #[.slice (some ⟨g, 0, none⟩) 8 8, .pointer (some ⟨b, 0, none⟩), .string s] w fun e w' => e = .returned (.tuple #[]) ∧ HoldsU B b (t ++ escF s s.size) w' ∧ Below B w w' ∧ Lib.OthersKept 5 (some b) w w' := by
  have hb := get_bt s
  go_enter Tryz.func116, Tryz.ntmps116
  go_wp2
  go_step3
  go_wp2
  go_step3
  go_wp2
  go_loopg [6] s.size (fun n kv wr => ∃ k : Nat, k + n = s.size ∧ kv = .int .i64 k ∧ HoldsU B b (t ++ escF s k) wr ∧ PairsAt g wr ∧ Below B w wr ∧ Lib.OthersKept 5 (some b) w wr)
  case atStart => exact ⟨0, by omega, rfl, by rw [escF, ByteArray.append_empty]; exact h, hP, Below.refl _ _, Lib.OthersKept.refl _ _ _⟩
  case round =>
    clear h hP
    obtain ⟨k, hkn, rfl, hH, hP, hBe, hO⟩ := hrel
    cases gk with
    | zero =>
      have hkI : ¬ ((k : Int) < (s.size : Int)) := by omega
      have hk : Hid (k = s.size) := by unfold Hid; omega
      go_wp2
      try rw [Exit.noGoto_ret]
      go_end0
      exact ⟨rfl, by rw [← hk.out]; exact hH, hBe, hO⟩
    | succ n0 =>
      have hlt : k < s.size := by omega
      have hkI : (k : Int) < (s.size : Int) := by omega
      have hEl := esc_le s k
      have hez : (t ++ escF s k).size ≤ 100000000000000 + 6 * 1000000 := by rw [ByteArray.size_append]; omega
      go_wp2
      go_loopg [7] 4 (fun n jv wy => ∃ m : Nat, m + n = 4 ∧ jv = .int .i64 (2 * m : Nat) ∧ Hid (∀ q, q < m → bt s k ≠ keyI q) ∧ HoldsU B b (t ++ escF s k) wy ∧ PairsAt g wy ∧ Below B w wy ∧ Lib.OthersKept 5 (some b) w wy)
      case atStart => exact ⟨0, by omega, rfl, fun q h => absurd h (by omega), hH, hP, hBe, hO⟩
      case round =>
        clear hH hP hBe hO
        obtain ⟨m, hmn, rfl, hno, hH, hP, hBe, hO⟩ := hrel
        cases gk with
        | zero =>
          have hm4 : Hid (m = 4) := by unfold Hid; omega
          have hjI : ¬ (((2 * m : Nat) : Int) < 8) := by omega
          have hone : Hid (oneS s k = s.extract k (k + 1)) := one_no (fun q hq => hno q (by have := hm4.out; omega))
          have hsz : B ≤ wr.heap.size := by have := hBe.size; omega
          go_wp2_with (go_at_call 114; refine (writeU_byte B b _ s k _ hH hlt (by omega) hsz).mono ?_; rintro e w1 ⟨rfl, hH1, hb1, ho1⟩)
          go_roundg n0
          case measure => omega
          case rel => exact ⟨k + 1, by omega, by go_num, by rw [esc_step, hone.out]; exact hH1, hP.kept hg ho1, hBe.trans hb1, hO.trans ho1⟩
        | succ n1 =>
          have hm : m < 4 := by omega
          obtain ⟨j, hj⟩ : ∃ j, j = 2 * m := ⟨_, rfl⟩
          rw [← hj]
          have c1 := pairs_key hP m hm
          have c2 := pairs_val hP m hm
          rw [← hj] at c1 c2
          obtain ⟨K, hK⟩ : ∃ K, K = keyS m := ⟨_, rfl⟩
          obtain ⟨k1, k2⟩ := key_bt m hm
          rw [← hK] at c1 k1 k2
          have hKs : (0 : Int) < (K.size : Int) := by omega
          have hbK := get_bt K
          have hj8 : (j : Int) < 8 := by omega
          have hj7 : (j : Int) + 1 < 8 := by omega
          have hvl := val_le m
          obtain ⟨V, hV⟩ : ∃ V, V = valS m := ⟨_, rfl⟩
          rw [← hV] at c2 hvl
          have HJ := hide hj
          have HV := hide hV
          clear hj hK hV k1
          by_cases he : bt s k = keyI m
          · have hone : Hid (oneS s k = V) := by unfold Hid; rw [one_yes hm he, HV.out]
            have hc : (bt s k == bt K 0) = true := by rw [he, k2]; simp
            have hsz : B ≤ wr.heap.size := by have := hBe.size; omega
            clear he k2
            go_wp2
            go_quiet (fail)
            go_wp2_with (go_at_call 88; refine (writeU_string B b _ V _ (hH.drewN _) (by omega) hsz).mono ?_; rintro e w1 ⟨rfl, hH1, hb1, ho1⟩)
            go_roundg n0
            case measure => omega
            case rel => exact ⟨k + 1, by omega, by go_num, by rw [esc_step, hone.out]; exact hH1, PairsAt.kept (w := wr.drewN _) hP hg ho1, (below_drewN hBe _).trans hb1, Lib.OthersKept.trans (c := wr.drewN _) hO ho1⟩
          · have hc : (bt s k == bt K 0) = false := by rw [k2]; simp [he]
            have hno2 : Hid (∀ q, q < m + 1 → bt s k ≠ keyI q) := fun q hq => by
              by_cases e : q = m
              · subst e; exact he
              · exact hno.out q (by omega)
            clear he k2
            go_wp2
            go_quiet (fail)
            go_wp2
            go_roundg n1
            case measure => omega
            case rel => exact ⟨m + 1, by omega, by rw [show ((2 * (m + 1) : Nat) : Int) = (j : Int) + 2 by have := HJ.out; omega], hno2, hH.drewN _, hP, below_drewN hBe _, hO⟩
end Go.Proofs.YtipniinmajoolaaGreatDoor
