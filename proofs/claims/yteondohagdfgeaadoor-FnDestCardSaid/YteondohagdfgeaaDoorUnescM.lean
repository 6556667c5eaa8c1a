/- What the package's unescaping gives: the same as the reference's. Conditions: texts of at most 1000 bytes, no other name of a character, no number sign behind an ampersand, the table of entities as its initialiser lays it. -/
import Derived.Test.YteondohagdfgeaaDoorUnesc
import Derived.Test.YteondohagdfgeaaDoorBuilder
namespace Go.Proofs.YteondohagdfgeaaDoor
open Go.RowKit
/-! The table against the reference. -/
def ampS (name : ByteArray) : ByteArray := ⟨#[38]⟩ ++ name ++ ⟨#[59]⟩
theorem amp_list (name : ByteArray) : (ampS name).toList = 38 :: (name.toList ++ [59]) := by
  unfold ampS
  rw [Lib.toList_data, Lib.toList_data]
  simp [ByteArray.data_append]
theorem of_toList {s : ByteArray} {l : List UInt8} (h : s.toList = l) : s = ⟨l.toArray⟩ := by
  rw [Lib.toList_data] at h
  apply ByteArray.ext
  rw [← h]
theorem named_four (x : ByteArray) (h : 0 < (namedS x).size) : (x.toList = [97, 109, 112] ∧ namedS x = ⟨#[38]⟩) ∨ (x.toList = [108, 116] ∧ namedS x = ⟨#[60]⟩) ∨ (x.toList = [103, 116] ∧ namedS x = ⟨#[62]⟩) ∨ (x.toList = [113, 117, 111, 116] ∧ namedS x = ⟨#[34]⟩) := by
  unfold namedS at h ⊢
  split at h
  · rename_i g; exact .inl ⟨by simpa using g, by rw [if_pos g]⟩
  · rename_i g1
    rw [if_neg g1]
    split at h
    · rename_i g; exact .inr (.inl ⟨by simpa using g, by rw [if_pos g]⟩)
    · rename_i g2
      rw [if_neg g2]
      split at h
      · rename_i g; exact .inr (.inr (.inl ⟨by simpa using g, by rw [if_pos g]⟩))
      · rename_i g3
        rw [if_neg g3]
        split at h
        · rename_i g; exact .inr (.inr (.inr ⟨by simpa using g, by rw [if_pos g]⟩))
        · exact absurd h (by decide)
theorem he_four {name : ByteArray} (h : 0 < (namedS name).size) : heOk (ampS name) = true ∧ heV (ampS name) = namedS name := by
  have ha := amp_list name
  rcases named_four name h with ⟨h1, h2⟩ | ⟨h1, h2⟩ | ⟨h1, h2⟩ | ⟨h1, h2⟩
  all_goals
    rw [h1] at ha
    rw [h2, of_toList ha]
    decide +kernel
theorem heF_is {name : ByteArray} : ∀ {n k j : Nat}, heF name n k = some j → k ≤ j ∧ j < k + n ∧ ((entB j).toList == name.toList) = true
  | 0, k, j, h => by simp [heF] at h
  | n + 1, k, j, h => by
    rw [heF] at h
    split at h
    · rename_i g
      obtain rfl := Option.some.inj h
      exact ⟨Nat.le_refl _, by omega, g⟩
    · obtain ⟨h1, h2, h3⟩ := heF_is h
      exact ⟨by omega, by omega, h3⟩
theorem rows_are : ∀ r : Fin 12, 4 ≤ (entB r.val).size ∧ bt (entB r.val) 0 = 38 ∧ bt (entB r.val) ((entB r.val).size - 1) = 59 ∧ ∀ q : Fin 8, 0 < q.val → q.val + 1 < (entB r.val).size → ldB (bt (entB r.val) q.val) = true := by decide +kernel
theorem rows_size : ∀ r : Fin 12, (entB r.val).size ≤ 8 := by decide +kernel
theorem entL_len : ∀ r : Fin 12, (entB r.val).toList = (entL.getD r.val ([], [])).1 := by decide +kernel
theorem eq_of_list {a b : ByteArray} (h : (a.toList == b.toList) = true) : a = b := by
  have h' : a.toList = b.toList := by simpa using h
  rw [of_toList h', Lib.toList_data]
/-- A row's name that stands in a text from an ampersand up to the first semicolon: the reference reads it. -/
theorem he_is_ent {s : ByteArray} {k j : Nat} (hk : k < s.size) (hj : j < s.size) (hkj : k + 1 ≤ j) (hno : othB s k = false) (hok : heOk (s.extract k (j + 1)) = true) : entC s k ∧ entE s k = j := by
  unfold heOk heK at hok
  cases hh : heF (s.extract k (j + 1)) 12 0 with
  | none => rw [hh] at hok; cases hok
  | some r =>
    obtain ⟨_, hr, he⟩ := heF_is hh
    have hE := eq_of_list he
    obtain ⟨r1, r2, r3, r4⟩ := rows_are ⟨r, by omega⟩
    have r5 := rows_size ⟨r, by omega⟩
    simp only at r1 r2 r3 r4 r5
    have hz : (entB r).size = j + 1 - k := by rw [hE, ByteArray.size_extract]; omega
    have hb : ∀ q, k + q < j + 1 → bt (entB r) q = bt s (k + q) := fun q h => by rw [hE]; exact bt_extract s k (j + 1) q h (by omega)
    have b0 : bt s k = 38 := by rw [← r2, hb 0 (by omega), Nat.add_zero]
    have b1 : bt s j = 59 := by rw [← r3, hb _ (by omega)]; congr 1; omega
    have hs : entE s k = j := scan_eq hkj (by omega) (fun q h1 h2 => by
      have := r4 ⟨q - k, by omega⟩ (by simp only; omega) (by simp only; omega)
      simp only at this
      rw [hb _ (by omega), show k + (q - k) = q by omega] at this
      exact this) (.inr (by rw [b1]; decide))
    refine ⟨⟨hk, b0, by omega, by omega, by omega, by rw [hs]; exact b1, ?_⟩, hs⟩
    unfold othB at hno
    rw [hs, decide_eq_true b0, decide_eq_true (show k + 1 < j by omega), decide_eq_true hj, decide_eq_true b1] at hno
    have : (namedS (s.extract (k + 1) j)).size ≠ 0 := by simpa using hno
    rw [hs]; omega
theorem bt_amp0 : bt ⟨#[38]⟩ 0 = 38 := by decide
theorem bt_semi0 : bt ⟨#[59]⟩ 0 = 59 := by decide
theorem sz_amp : (⟨#[38]⟩ : ByteArray).size = 1 := rfl
theorem sz_semi : (⟨#[59]⟩ : ByteArray).size = 1 := rfl
theorem ent_amp {s : ByteArray} {k j : Nat} (hj : j < s.size) (hkj : k + 1 ≤ j) (b0 : bt s k = 38) (b1 : bt s j = 59) : s.extract k (j + 1) = ampS (s.extract (k + 1) j) := by
  unfold ampS
  have hz : (s.extract (k + 1) j).size = j - (k + 1) := by rw [ByteArray.size_extract]; omega
  have hz2 : (⟨#[38]⟩ ++ s.extract (k + 1) j : ByteArray).size = j - k := by rw [ByteArray.size_append, hz, sz_amp]; omega
  refine ext_bt (by rw [ByteArray.size_append, hz2, sz_semi, ByteArray.size_extract]; omega) fun q hq => ?_
  rw [ByteArray.size_extract] at hq
  rw [bt_extract s k (j + 1) q (by omega) (by omega)]
  by_cases e : k + q = j
  · have := bt_right (⟨#[38]⟩ ++ s.extract (k + 1) j) ⟨#[59]⟩ 0
    rw [hz2, bt_semi0, show j - k + 0 = q by omega] at this
    rw [this, e, b1]
  · rw [bt_left _ _ (by omega)]
    by_cases e0 : q = 0
    · subst e0
      rw [bt_left _ _ (by rw [sz_amp]; omega), bt_amp0, Nat.add_zero, b0]
    · have := bt_right ⟨#[38]⟩ (s.extract (k + 1) j) (q - 1)
      rw [sz_amp, show 1 + (q - 1) = q by omega] at this
      rw [this, bt_extract s (k + 1) j (q - 1) (by omega) (by omega)]
      congr 1; omega
/-- Where a text's reference ends: its first semicolon. -/
def semE (s : ByteArray) (k : Nat) : Nat := scan (fun c => !decide (c = 59)) s (k + 1)
theorem ld_semi {c : Int} (h : ldB c = true) : (!decide (c = 59)) = true := by
  simp [ldB] at h; simp; omega
theorem ent_sem {s : ByteArray} {k : Nat} (h : entC s k) : semE s k = entE s k := by
  obtain ⟨h1, h2, h3, h4, h5, h6, h7⟩ := h
  obtain ⟨_, _, g3, _⟩ := scan_is ldB s (i := k + 1) (by omega)
  exact scan_eq (by omega) (by omega) (fun q a b => ld_semi (g3 q a b)) (.inr (by rw [h6]; decide))
/-- What the table says at an ampersand is what the reference says. -/
theorem he_ent {s : ByteArray} {k : Nat} (hk : k < s.size) (hno : othB s k = false) :
    (entC s k ∧ semE s k < s.size ∧ heOk (s.extract k (semE s k + 1)) = true ∧ heV (s.extract k (semE s k + 1)) = entT s k ∧ semE s k + 1 = k + entN s k) ∨
    (¬ entC s k ∧ (semE s k < s.size → heOk (s.extract k (semE s k + 1)) = false)) := by
  by_cases h : entC s k
  · left
    have hS := ent_sem h
    obtain ⟨e1, e2⟩ := ent_yes h
    obtain ⟨h1, h2, h3, h4, h5, h6, h7⟩ := id h
    obtain ⟨g1, g2⟩ := he_four h7
    rw [hS, ent_amp h5 (by omega) h2 h6]
    exact ⟨h, h5, g1, by rw [g2, e1], by omega⟩
  · right
    refine ⟨h, fun hlt => ?_⟩
    have hge : k + 1 ≤ semE s k := scan_ge _ _ (by omega)
    by_cases g : heOk (s.extract k (semE s k + 1)) = true
    · exact absurd (he_is_ent hk hlt hge hno g).1 h
    · simpa using g
theorem EntIs.lt {w : World} (h : EntIs w) : 0 < w.heap.size := by
  have h0 := (h 0 (by omega)).1
  rcases Nat.lt_or_ge 0 w.heap.size with h' | h'
  · exact h'
  · simp [World.cell?, Array.getElem?_eq_none h'] at h0
theorem EntIs.alloc {w : World} (h : EntIs w) (o : Obj) : EntIs (w.alloc o) := h.below ((Below.refl _ _).alloc (Nat.le_refl _) o) h.lt
set_option maxHeartbeats 2000000 in
set_option maxRecDepth 100000 in
theorem replace_any (s : ByteArray) (w : World) (hs : s.size ≤ 1000) (h0 : 0 < s.size) (hE : EntIs w) (hN : NoOther s) :
    Calls Tryd.prog 32 #[.agg #[], .string s] w fun e w' => e = .returned (.string (unR s 0)) ∧ Below w.heap.size w w' := by
  have hb := get_bt s
  have HE := hide hE
  have HN := hide hN
  have hG := hE.lt
  clear hE hN
  go_enter Tryd.func32, Tryd.ntmps32
  go_wp2
  go_loopw [6] (fun i wr => ∃ (k : Nat) (t : ByteArray), k ≤ s.size ∧ i = .int .i64 k ∧ t.size ≤ k ∧ Hid (t ++ unR s k = unR s 0) ∧ HoldsB (w.heap.size + 1) (w.heap.size + 1) t wr ∧ Below (w.heap.size + 1) (w.alloc (.cells #[] 36)) wr) (fun i _ => s.size - (intOf i).toNat)
  case atStart => exact ⟨0, ByteArray.empty, by omega, rfl, by simp, ByteArray.empty_append, by have := holdsB_fresh (w.alloc (.cells #[] 36)); simpa using this, (Below.refl _ _).alloc (by simp) _⟩
  case round =>
    obtain ⟨k, t, hk, rfl, hz, hT, hH, hbe⟩ := hrel
    have hsz : w.heap.size + 1 ≤ wr.heap.size := by have := hbe.size; simpa using this
    by_cases hlt : k < s.size
    · by_cases he : escB s k = true
      · have ht := hide (append_step hT.out (unR_esc hlt he))
        unfold escB at he
        simp only [Bool.and_eq_true, decide_eq_true_eq] at he
        obtain ⟨e1, e2, e3⟩ := he
        have c1 : (bt s k == 92) = true := by simp [e1]
        have hz2 := hide (ex_one e2)
        clear e1
        go_wp2_with (first | (go_at_call 34; refine (isPunctM_any _ _).mono ?_; rintro e w' ⟨rfl, rfl⟩) | (go_at_call 35; refine (writeByte_holds _ _ t s (k + 1) _ hH e2 (by omega) hsz).mono ?_; rintro e w1 ⟨rfl, hH1, hb1⟩))
        go_roundw
        case rel => exact ⟨k + 2, _, by omega, by go_num, by rw [ByteArray.size_append, hz2.out]; omega, ht, hH1, hbe.trans hb1⟩
        case measure => simp [intOf]; omega
      · have he : escB s k = false := by simpa using he
        by_cases h38 : bt s k = 38
        · have c1 : (bt s k == 92) = false := by simp [h38]
          have c2 : (bt s k == 38) = true := by simp [h38]
          have hW := he_ent hlt (HN.out k hlt)
          have hS := hide (scan_is (fun c => !decide (c = 59)) s (i := k + 1) (by omega))
          have hWH := hide hW
          have heH := hide he
          clear h38 hW he
          go_wp2_with (first | (go_at_call 34; refine (isPunctM_any _ _).mono ?_; rintro e w' ⟨rfl, rfl⟩))
          go_loop [7] (fun j => ∃ m : Nat, k + 1 ≤ m ∧ m ≤ s.size ∧ j = .int .i64 m ∧ Hid (∀ q, k + 1 ≤ q → q < m → (!decide (bt s q = 59)) = true)) (fun j => s.size - (intOf j).toNat)
          case atStart => exact ⟨k + 1, by omega, by omega, by go_num, fun j h h' => absurd h (by omega)⟩
          case round =>
            obtain ⟨m, hkm, hm, rfl, hnm⟩ := hrel
            have tail : (m = s.size ∨ (!decide (bt s m = 59)) = false) → Hid (semE s k = m) := fun h => scan_eq hkm hm (fun j a b => hnm j a b) h
            by_cases hlm : m < s.size
            · by_cases h59 : bt s m = 59
              · have hE := tail (.inr (by simp [h59]))
                have c3 : (bt s m != 59) = false := by simp [h59]
                clear tail hnm h59
                rcases hWH.out with ⟨q1, q2, q3, q4, q5⟩ | ⟨q1, q2⟩
                · rw [hE.out] at q3 q4 q5
                  have ht := hide (append_step hT.out (unR_ent q1))
                  have p3 := entT_le s k
                  have p4 := (entN_pos q1).1
                  have p5 : m + 1 = k + entN s k := q5
                  have P5 := hide p5
                  have D : ∀ wx : World, EntIs wx → Calls Tryd.prog 36 #[.string (s.extract k (m + 1))] wx fun e w' => e = .returned (.tuple #[.string (entT s k), .bool true]) ∧ wx = w' :=
                    fun wx h => (htmlEntity_any (s.extract k (m + 1)) wx h).mono fun e w' h => by rw [q3, q4] at h; exact h
                  have DH := hide D
                  have hEr : Hid (EntIs wr) := (HE.out.alloc _).below hbe (by omega)
                  clear q1 q2 q3 q4 q5 p5 D
                  go_wp2_with (first | (go_at_call 36; refine (DH.out _ hEr.out).mono ?_; rintro e w' ⟨rfl, rfl⟩) | (go_at_call 37; refine (writeString_holds _ _ t (entT s k) _ hH (by omega) hsz).mono ?_; rintro e w1 ⟨rfl, hH1, hb1⟩))
                  go_roundw
                  case rel => exact ⟨k + entN s k, _, by have := P5.out; omega, by rw [← P5.out]; go_num, by rw [ByteArray.size_append]; have := P5.out; omega, ht, hH1, hbe.trans hb1⟩
                  case measure => have := P5.out; simp [intOf]; omega
                · have q3 := q2 (by rw [hE.out]; exact hlm)
                  rw [hE.out] at q3
                  have ht := hide (append_step hT.out (unR_one hlt heH.out q1))
                  have hz2 := hide (ex_one hlt)
                  have D : ∀ wx : World, EntIs wx → Calls Tryd.prog 36 #[.string (s.extract k (m + 1))] wx fun e w' => e = .returned (.tuple #[.string (heV (s.extract k (m + 1))), .bool false]) ∧ wx = w' :=
                    fun wx h => (htmlEntity_any (s.extract k (m + 1)) wx h).mono fun e w' h => by rw [q3] at h; exact h
                  have DH := hide D
                  have hEr : Hid (EntIs wr) := (HE.out.alloc _).below hbe (by omega)
                  clear q1 q2 q3 D
                  go_wp2_with (first | (go_at_call 36; refine (DH.out _ hEr.out).mono ?_; rintro e w' ⟨rfl, rfl⟩) | (go_at_call 35; refine (writeByte_holds _ _ t s k _ hH hlt (by omega) hsz).mono ?_; rintro e w1 ⟨rfl, hH1, hb1⟩))
                  go_roundw
                  case rel => exact ⟨k + 1, _, by omega, by go_num, by rw [ByteArray.size_append, hz2.out]; omega, ht, hH1, hbe.trans hb1⟩
                  case measure => simp [intOf]; omega
              · have c3 : (bt s m != 59) = true := by simp [h59]
                have hend2 : Hid (∀ q, k + 1 ≤ q → q < m + 1 → (!decide (bt s q = 59)) = true) := by
                  intro j a b
                  by_cases e : j = m
                  · subst e; simp [h59]
                  · exact hnm j a (by omega)
                clear tail h59
                go_wp2
                go_round
                case rel => exact ⟨m + 1, by omega, by omega, by go_num, hend2⟩
                case measure => simp [intOf]; omega
            · obtain rfl : m = s.size := by omega
              have hE := tail (.inl rfl)
              have q1 : ¬ entC s k := by
                rcases hWH.out with ⟨q1, q2, _⟩ | ⟨q1, _⟩
                · rw [hE.out] at q2; exact absurd q2 (Nat.lt_irrefl _)
                · exact q1
              have ht := hide (append_step hT.out (unR_one hlt heH.out q1))
              have hz2 := hide (ex_one hlt)
              clear q1 tail hnm
              go_wp2_with (go_at_call 35; refine (writeByte_holds _ _ t s k _ hH hlt (by omega) hsz).mono ?_; rintro e w1 ⟨rfl, hH1, hb1⟩)
              go_roundw
              case rel => exact ⟨k + 1, _, by omega, by go_num, by rw [ByteArray.size_append, hz2.out]; omega, ht, hH1, hbe.trans hb1⟩
              case measure => simp [intOf]; omega
        · have ht := hide (append_step hT.out (unR_one hlt he (fun h => h38 h.2.1)))
          have hz2 := hide (ex_one hlt)
          have c2 : (bt s k == 38) = false := by simp [h38]
          by_cases h1 : bt s k = 92
          · have c1 : (bt s k == 92) = true := by simp [h1]
            by_cases h2 : k + 1 < s.size
            · have h3 : pcB (bt s (k + 1)) = false := by
                unfold escB at he
                simpa [h1, h2] using he
              clear he h38 h1
              go_wp2_with (first | (go_at_call 34; refine (isPunctM_any _ _).mono ?_; rintro e w' ⟨rfl, rfl⟩) | (go_at_call 35; refine (writeByte_holds _ _ t s k _ hH hlt (by omega) hsz).mono ?_; rintro e w1 ⟨rfl, hH1, hb1⟩))
              go_roundw
              case rel => exact ⟨k + 1, _, by omega, by go_num, by rw [ByteArray.size_append, hz2.out]; omega, ht, hH1, hbe.trans hb1⟩
              case measure => simp [intOf]; omega
            · have h2I : ¬ ((k : Int) + 1 < (s.size : Int)) := by omega
              clear he h38 h1
              go_wp2_with (first | (go_at_call 34; refine (isPunctM_any _ _).mono ?_; rintro e w' ⟨rfl, rfl⟩) | (go_at_call 35; refine (writeByte_holds _ _ t s k _ hH hlt (by omega) hsz).mono ?_; rintro e w1 ⟨rfl, hH1, hb1⟩))
              go_roundw
              case rel => exact ⟨k + 1, _, by omega, by go_num, by rw [ByteArray.size_append, hz2.out]; omega, ht, hH1, hbe.trans hb1⟩
              case measure => simp [intOf]; omega
          · have c1 : (bt s k == 92) = false := by simp [h1]
            clear he h38 h1
            go_wp2_with (first | (go_at_call 34; refine (isPunctM_any _ _).mono ?_; rintro e w' ⟨rfl, rfl⟩) | (go_at_call 35; refine (writeByte_holds _ _ t s k _ hH hlt (by omega) hsz).mono ?_; rintro e w1 ⟨rfl, hH1, hb1⟩))
            go_roundw
            case rel => exact ⟨k + 1, _, by omega, by go_num, by rw [ByteArray.size_append, hz2.out]; omega, ht, hH1, hbe.trans hb1⟩
            case measure => simp [intOf]; omega
    · obtain rfl : k = s.size := by omega
      have hE := append_end hT.out (unR_end (Nat.le_refl _))
      subst hE
      have hp := unR_pos h0
      clear hT
      go_wp2_with (go_at_call 38; refine (string_holds _ _ _ _ hH hp).mono ?_; rintro e w1 ⟨rfl, hb1⟩)
      go_ret
      exact ⟨rfl, ((Below.refl _ _).alloc (Nat.le_refl _) _).trans ((hbe.trans hb1).mono (by omega))⟩
theorem zzContains_any (u sub : ByteArray) (w : World) (hs : u.size ≤ 2147483647) (ht : sub.size ≤ 2147483647) (hp : 0 < sub.size) : Calls Tryd.prog 31 #[.string u, .string sub] w fun e w' => e = .returned (.bool (decide (0 ≤ idxI (fst_ u sub 0)))) ∧ w = w' := by
  go_enter Tryd.func31, Tryd.ntmps31
  go_wp2_with (go_at_call 33; refine (zzIndex_any _ _ _ hs ht hp).mono ?_; rintro e w' ⟨rfl, rfl⟩)
  all_goals
    go_ret
    exact ⟨ret_bool (by simp_all), rfl⟩
theorem hit_one {s : ByteArray} {c : UInt8} {k : Nat} (hk : k < s.size) : hitB s ⟨#[c]⟩ k = decide (bt s k = (c.toNat : Int)) := by
  rw [hit_in (by show k + 1 ≤ s.size; omega)]
  have hz : (s.extract k (k + 1)).size = 1 := ex_one hk
  have h0 := bt_list (s.extract k (k + 1)) (k := 0) (by omega)
  rw [bt_extract s k (k + 1) 0 (by omega) (by omega), Nat.add_zero] at h0
  have hl : (s.extract k (k + 1)).data.toList.length = 1 := hz
  rw [show k + (⟨#[c]⟩ : ByteArray).size = k + 1 from rfl, Lib.toList_data, Lib.toList_data]
  match hm : (s.extract k (k + 1)).data.toList, hl with
  | [x], _ =>
    rw [hm] at h0
    have hx : x = UInt8.ofNat (bt s k).toNat := by simpa using h0
    have h1 := bt_nonneg s k
    have h2 := bt_le s k
    have hn : x.toNat = (bt s k).toNat := by rw [hx, UInt8.toNat_ofNat']; omega
    show ([x] == [c]) = _
    rw [Bool.eq_iff_iff]
    simp only [beq_iff_eq, List.cons.injEq, and_true, decide_eq_true_eq]
    constructor
    · rintro rfl; omega
    · intro e; apply UInt8.toNat_inj.1; omega
/-- A text in which a byte is not found. -/
theorem none_of {s : ByteArray} {c : UInt8} (h : decide (0 ≤ idxI (fst_ s ⟨#[c]⟩ 0)) = false) : ∀ k, k < s.size → bt s k ≠ (c.toNat : Int) := by
  intro k hk e
  rcases fst_is s ⟨#[c]⟩ 0 with ⟨j, h1, _⟩ | ⟨_, h2⟩
  · rw [h1, show decide (0 ≤ idxI (some j)) = true from decide_eq_true (Int.natCast_nonneg j)] at h
    cases h
  · have := h2 (by show 0 < 1; omega) k (Nat.zero_le _)
    rw [hit_one hk, decide_eq_true e] at this
    cases this
theorem extract_all (s : ByteArray) : s.extract 0 s.size = s := by apply ByteArray.ext; simp
theorem unR_plain {s : ByteArray} (h1 : decide (0 ≤ idxI (fst_ s ⟨#[92]⟩ 0)) = false) (h2 : decide (0 ≤ idxI (fst_ s ⟨#[38]⟩ 0)) = false) : unR s 0 = s := by
  rw [unR_same (fun k hk => ⟨none_of h1 k hk, none_of h2 k hk⟩) _ 0 (Nat.le_refl _) (Nat.zero_le _), extract_all]
theorem some_pos {s : ByteArray} {c : UInt8} (h : decide (0 ≤ idxI (fst_ s ⟨#[c]⟩ 0)) = true) : 0 < s.size := by
  rcases fst_is s ⟨#[c]⟩ 0 with ⟨j, _, _, h3, _⟩ | ⟨h1, _⟩
  · have : j + 1 ≤ s.size := h3
    omega
  · rw [h1] at h; exact absurd h (by decide)
set_option maxHeartbeats 1000000 in
theorem mdUnescape_any (s : ByteArray) (w : World) (hs : s.size ≤ 1000) (hE : EntIs w) (hN : NoOther s) :
    Calls Tryd.prog 27 #[.string s] w fun e w' => e = .returned (.string (unR s 0)) ∧ Below w.heap.size w w' := by
  have Z : ∀ (c : UInt8) (wx : World), Calls Tryd.prog 31 #[.string s, .string ⟨#[c]⟩] wx fun e w' => e = .returned (.bool (decide (0 ≤ idxI (fst_ s ⟨#[c]⟩ 0)))) ∧ wx = w' :=
    fun c wx => zzContains_any s ⟨#[c]⟩ wx (by omega) (by show 1 ≤ 2147483647; omega) (by show 0 < 1; omega)
  have ZH := hide Z
  clear Z
  by_cases h1 : decide (0 ≤ idxI (fst_ s ⟨#[92]⟩ 0)) = true
  · have R := hide (replace_any s w hs (some_pos h1) hE hN)
    have H1 := hide h1
    clear h1 hE hN
    have Z1 : Hid (∀ wx : World, Calls Tryd.prog 31 #[.string s, .string ⟨#[92]⟩] wx fun e w' => e = .returned (.bool true) ∧ wx = w') := fun wx => (ZH.out 92 wx).mono fun e w' h => by rw [H1.out] at h; exact h
    go_enter Tryd.func27, Tryd.ntmps27
    go_wp2_with (first | (go_at_call 31; refine (Z1.out _).mono ?_; rintro e w' ⟨rfl, rfl⟩) | (go_at_call 32; refine R.out.mono ?_; rintro e w1 ⟨rfl, hb1⟩))
    go_ret
    exact ⟨rfl, hb1⟩
  · have h1 : decide (0 ≤ idxI (fst_ s ⟨#[92]⟩ 0)) = false := by simpa using h1
    have H1 := hide h1
    have Z1 : Hid (∀ wx : World, Calls Tryd.prog 31 #[.string s, .string ⟨#[92]⟩] wx fun e w' => e = .returned (.bool false) ∧ wx = w') := fun wx => (ZH.out 92 wx).mono fun e w' h => by rw [H1.out] at h; exact h
    by_cases h2 : decide (0 ≤ idxI (fst_ s ⟨#[38]⟩ 0)) = true
    · have R := hide (replace_any s w hs (some_pos h2) hE hN)
      have H2 := hide h2
      clear h1 h2 hE hN
      have Z2 : Hid (∀ wx : World, Calls Tryd.prog 31 #[.string s, .string ⟨#[38]⟩] wx fun e w' => e = .returned (.bool true) ∧ wx = w') := fun wx => (ZH.out 38 wx).mono fun e w' h => by rw [H2.out] at h; exact h
      go_enter Tryd.func27, Tryd.ntmps27
      go_wp2_with (first | (go_at_call 31; refine (Z1.out _).mono ?_; rintro e w' ⟨rfl, rfl⟩) | (go_at_call 31; refine (Z2.out _).mono ?_; rintro e w' ⟨rfl, rfl⟩) | (go_at_call 32; refine R.out.mono ?_; rintro e w1 ⟨rfl, hb1⟩))
      go_ret
      exact ⟨rfl, hb1⟩
    · have h2 : decide (0 ≤ idxI (fst_ s ⟨#[38]⟩ 0)) = false := by simpa using h2
      have H2 := hide h2
      have P := hide (unR_plain h1 h2)
      clear h1 h2 hE hN
      have Z2 : Hid (∀ wx : World, Calls Tryd.prog 31 #[.string s, .string ⟨#[38]⟩] wx fun e w' => e = .returned (.bool false) ∧ wx = w') := fun wx => (ZH.out 38 wx).mono fun e w' h => by rw [H2.out] at h; exact h
      go_enter Tryd.func27, Tryd.ntmps27
      go_wp2_with (first | (go_at_call 31; refine (Z1.out _).mono ?_; rintro e w' ⟨rfl, rfl⟩) | (go_at_call 31; refine (Z2.out _).mono ?_; rintro e w' ⟨rfl, rfl⟩))
      go_ret
      exact ⟨ret_str P.out.symm, Below.refl _ _⟩
end Go.Proofs.YteondohagdfgeaaDoor
