/- Contracts of the reference's named and Entity, and of htmlEntity over its table. Conditions: no number sign behind the ampersand; the table holds its twelve rows. -/
import Derived.Test.YteondohagdfgeaaDoorProg
import Derived.Test.YteondohagdfgeaaDoorBase
import Derived.Test.YteondohagdfgeaaDoorChars
import Derived.Lib.LaidTab
import Derived.OpenShut
namespace Go.Proofs.YteondohagdfgeaaDoor
open Go.RowKit
def namedS (s : ByteArray) : ByteArray :=
  if (s.toList == [97, 109, 112]) = true then ⟨#[38]⟩ else if (s.toList == [108, 116]) = true then ⟨#[60]⟩ else if (s.toList == [103, 116]) = true then ⟨#[62]⟩ else if (s.toList == [113, 117, 111, 116]) = true then ⟨#[34]⟩ else ⟨#[]⟩
theorem named_any (s : ByteArray) (w : World) : Calls Tryd.prog 19 #[.string s] w fun e w' => e = .returned (.string (namedS s)) ∧ w = w' := by
  by_cases h1 : (s.toList == [97, 109, 112]) = true
  · have hn : Hid (namedS s = ⟨#[38]⟩) := by unfold Hid namedS; rw [if_pos h1]
    go_enter Tryd.func19, Tryd.ntmps19
    go_wp2
    go_ret
    exact ⟨ret_str hn.out.symm, rfl⟩
  have g1 : (s.toList == [97, 109, 112]) = false := by simpa using h1
  by_cases h2 : (s.toList == [108, 116]) = true
  · have hn : Hid (namedS s = ⟨#[60]⟩) := by unfold Hid namedS; rw [if_neg h1, if_pos h2]
    clear h1
    go_enter Tryd.func19, Tryd.ntmps19
    go_wp2
    go_ret
    exact ⟨ret_str hn.out.symm, rfl⟩
  have g2 : (s.toList == [108, 116]) = false := by simpa using h2
  by_cases h3 : (s.toList == [103, 116]) = true
  · have hn : Hid (namedS s = ⟨#[62]⟩) := by unfold Hid namedS; rw [if_neg h1, if_neg h2, if_pos h3]
    clear h1 h2
    go_enter Tryd.func19, Tryd.ntmps19
    go_wp2
    go_ret
    exact ⟨ret_str hn.out.symm, rfl⟩
  have g3 : (s.toList == [103, 116]) = false := by simpa using h3
  by_cases h4 : (s.toList == [113, 117, 111, 116]) = true
  · have hn : Hid (namedS s = ⟨#[34]⟩) := by unfold Hid namedS; rw [if_neg h1, if_neg h2, if_neg h3, if_pos h4]
    clear h1 h2 h3
    go_enter Tryd.func19, Tryd.ntmps19
    go_wp2
    go_ret
    exact ⟨ret_str hn.out.symm, rfl⟩
  have g4 : (s.toList == [113, 117, 111, 116]) = false := by simpa using h4
  have hn : Hid (namedS s = ⟨#[]⟩) := by unfold Hid namedS; rw [if_neg h1, if_neg h2, if_neg h3, if_neg h4]
  clear h1 h2 h3 h4
  go_enter Tryd.func19, Tryd.ntmps19
  go_wp2
  go_ret
  exact ⟨ret_str hn.out.symm, rfl⟩

/-! The table of entities. -/
def entL : List (List UInt8 × List UInt8) := [([38, 97, 109, 112, 59], [38]), ([38, 97, 112, 111, 115, 59], [39]), ([38, 99, 111, 112, 121, 59], [194, 169]), ([38, 102, 114, 97, 99, 51, 52, 59], [194, 190]), ([38, 103, 116, 59], [62]), ([38, 104, 101, 108, 108, 105, 112, 59], [226, 128, 166]), ([38, 108, 116, 59], [60]), ([38, 109, 100, 97, 115, 104, 59], [226, 128, 148]), ([38, 110, 98, 115, 112, 59], [194, 160]), ([38, 110, 100, 97, 115, 104, 59], [226, 128, 147]), ([38, 113, 117, 111, 116, 59], [34]), ([38, 114, 101, 103, 59], [194, 174])]
def entB (k : Nat) : ByteArray := ⟨(entL.getD k ([], [])).1.toArray⟩
def entV (k : Nat) : ByteArray := ⟨(entL.getD k ([], [])).2.toArray⟩
def EntIs (w : World) : Prop := ∀ k, k < 12 → w.cell? ⟨0, k * 2, none⟩ = some (.string (entB k)) ∧ w.cell? ⟨0, k * 2 + 1, none⟩ = some (.string (entV k))
theorem EntIs.below {w w' : World} {B : Nat} (h : EntIs w) (hb : Below B w w') (hB : 0 < B) : EntIs w' := fun k hk => by
  rw [hb.cell (by exact hB), hb.cell (by exact hB)]; exact h k hk
def heF (name : ByteArray) : Nat → Nat → Option Nat
  | 0, _ => none
  | n + 1, k => if ((entB k).toList == name.toList) = true then some k else heF name n (k + 1)
def heK (name : ByteArray) : Option Nat := heF name 12 0
theorem heF_skip {name : ByteArray} : ∀ {n k : Nat} (j : Nat), j ≤ n → (∀ i, k ≤ i → i < k + j → ((entB i).toList == name.toList) = false) → heF name n k = heF name (n - j) (k + j)
  | n, k, 0, _, _ => rfl
  | 0, k, j + 1, h, _ => absurd h (by omega)
  | n + 1, k, j + 1, h, ha => by
    rw [heF, if_neg (by rw [ha k (Nat.le_refl _) (by omega)]; simp), heF_skip j (by omega) (fun i h1 h2 => ha i (by omega) (by omega)), show n + 1 - (j + 1) = n - j by omega, show k + 1 + j = k + (j + 1) by omega]
theorem heK_yes {name : ByteArray} {k : Nat} (hk : k < 12) (ha : ∀ i, i < k → ((entB i).toList == name.toList) = false) (h : ((entB k).toList == name.toList) = true) : heK name = some k := by
  unfold heK
  rw [heF_skip k (by omega) (fun i _ h2 => ha i (by omega)), Nat.zero_add, show 12 - k = (11 - k) + 1 by omega, heF, if_pos h]
theorem heK_no {name : ByteArray} (ha : ∀ i, i < 12 → ((entB i).toList == name.toList) = false) : heK name = none := by
  unfold heK
  rw [heF_skip 12 (by omega) (fun i _ h2 => ha i (by omega))]; rfl
def heV (name : ByteArray) : ByteArray := match heK name with | some k => entV k | none => ⟨#[]⟩
def heOk (name : ByteArray) : Bool := (heK name).isSome
set_option maxHeartbeats 1000000 in
theorem htmlEntity_any (name : ByteArray) (w : World) (hE : EntIs w) : Calls Tryd.prog 36 #[.string name] w fun e w' => e = .returned (.tuple #[.string (heV name), .bool (heOk name)]) ∧ w = w' := by
  have HE := hide hE
  clear hE
  go_enter Tryd.func36, Tryd.ntmps36
  go_wp2
  go_loop [4] (fun i => ∃ k : Nat, k ≤ 12 ∧ i = .int .i64 k ∧ Hid (∀ i, i < k → ((entB i).toList == name.toList) = false)) (fun i => 12 - (intOf i).toNat)
  case atStart => exact ⟨0, by omega, rfl, fun i h => absurd h (by omega)⟩
  case round =>
    obtain ⟨k, hk, rfl, hn⟩ := hrel
    by_cases hlt : k < 12
    · obtain ⟨h1, h2⟩ := HE.out k hlt
      by_cases hy : ((entB k).toList == name.toList) = true
      · have hK := heK_yes hlt (fun i hi => hn i hi) hy
        have hV : Hid (heV name = entV k) := by unfold Hid heV; rw [hK]
        have hO : Hid (heOk name = true) := by unfold Hid heOk; rw [hK]; rfl
        clear hK
        go_wp2
        go_ret2
        exact ⟨by rw [hV.out, hO.out]; rfl, rfl⟩
      · have hy : ((entB k).toList == name.toList) = false := by simpa using hy
        have hend : Hid (∀ i, i < k + 1 → ((entB i).toList == name.toList) = false) := by
          intro i hi
          by_cases e : i = k
          · subst e; exact hy
          · exact hn i (by omega)
        go_wp2
        go_round
        case rel => exact ⟨k + 1, by omega, by go_num, hend⟩
        case measure => simp [intOf]; omega
    · obtain rfl : k = 12 := by omega
      have hK := heK_no (fun i hi => hn i hi)
      have hV : Hid (heV name = ⟨#[]⟩) := by unfold Hid heV; rw [hK]
      have hO : Hid (heOk name = false) := by unfold Hid heOk; rw [hK]; rfl
      clear hK
      go_wp2
      go_ret2
      exact ⟨by rw [hV.out, hO.out]; rfl, rfl⟩

/-! The reference's Entity, where no number sign stands behind the ampersand. -/
def entE (s : ByteArray) (i : Nat) : Nat := scan ldB s (i + 1)
def entC (s : ByteArray) (i : Nat) : Prop := i < s.size ∧ bt s i = 38 ∧ i + 1 < s.size ∧ i + 1 < entE s i ∧ entE s i < s.size ∧ bt s (entE s i) = 59 ∧ 0 < (namedS (s.extract (i + 1) (entE s i))).size
instance (s : ByteArray) (i : Nat) : Decidable (entC s i) := by unfold entC; infer_instance
def entT (s : ByteArray) (i : Nat) : ByteArray := if entC s i then namedS (s.extract (i + 1) (entE s i)) else ⟨#[]⟩
def entN (s : ByteArray) (i : Nat) : Nat := if entC s i then entE s i + 1 - i else 0
theorem ent_no {s : ByteArray} {i : Nat} (h : ¬ entC s i) : entT s i = ⟨#[]⟩ ∧ entN s i = 0 := by unfold entT entN; rw [if_neg h, if_neg h]; exact ⟨rfl, rfl⟩
theorem ent_yes {s : ByteArray} {i : Nat} (h : entC s i) : entT s i = namedS (s.extract (i + 1) (entE s i)) ∧ entN s i = entE s i + 1 - i := by unfold entT entN; rw [if_pos h, if_pos h]; exact ⟨rfl, rfl⟩
theorem ld_parts {c : Int} (h : ldB c = true) : ltB c = true ∨ (ltB c = false ∧ dgB c = true) := by
  by_cases hl : ltB c = true
  · exact .inl hl
  · refine .inr ⟨by simpa using hl, ?_⟩
    simp [ldB] at h; simp [ltB] at hl; simp [dgB]; omega
theorem ld_noparts {c : Int} (h : ldB c = false) : ltB c = false ∧ dgB c = false := by
  simp [ldB] at h; simp [ltB, dgB]; omega
theorem ret_si {a b : ByteArray} {k : IntKind} {x y : Int} (h : a = b) (g : x = y) : Ending.returned (.tuple #[.string a, .int k x]) = .returned (.tuple #[.string b, .int k y]) := by rw [h, g]
set_option maxHeartbeats 2000000 in
set_option maxRecDepth 100000 in
theorem entity_any (s : ByteArray) (i : Nat) (w : World) (hs : s.size ≤ 1000) (hi : i ≤ s.size) (hno : i + 1 < s.size → bt s i = 38 → bt s (i + 1) ≠ 35) :
    Calls Tryd.prog 23 #[.string s, .int .i64 i] w fun e w' => e = .returned (.tuple #[.string (entT s i), .int .i64 (entN s i : Nat)]) ∧ w = w' := by
  have hb := get_bt s
  by_cases h1 : i < s.size
  case neg =>
    have hN := ent_no (s := s) (i := i) (fun h => h1 h.1)
    have HN := hide hN
    clear hN
    have h1I : (s.size : Int) ≤ (i : Int) := by omega
    clear h1 hno
    go_enter Tryd.func23, Tryd.ntmps23
    go_wp2
    go_ret2
    exact ⟨ret_si HN.out.1.symm (by rw [HN.out.2]; rfl), rfl⟩
  by_cases h2 : bt s i = 38
  case neg =>
    have hN := ent_no (s := s) (i := i) (fun h => h2 h.2.1)
    have HN := hide hN
    clear hN
    have c2 : (bt s i != 38) = true := by simp [h2]
    clear h2 hno
    go_enter Tryd.func23, Tryd.ntmps23
    go_wp2
    go_ret2
    exact ⟨ret_si HN.out.1.symm (by rw [HN.out.2]; rfl), rfl⟩
  have c2 : (bt s i != 38) = false := by simp [h2]
  by_cases h3 : i + 1 < s.size
  case neg =>
    have hN := ent_no (s := s) (i := i) (fun h => h3 h.2.2.1)
    have HN := hide hN
    clear hN
    have h3I : ¬ ((i : Int) + 1 < (s.size : Int)) := by omega
    clear h2 h3 hno
    go_enter Tryd.func23, Tryd.ntmps23
    go_wp2
    go_ret2
    exact ⟨ret_si HN.out.1.symm (by rw [HN.out.2]; rfl), rfl⟩
  have c3 : (bt s (i + 1) == 35) = false := by simp [hno h3 h2]
  have H2 := hide h2
  clear h2 hno
  have h1I : ¬ ((s.size : Int) ≤ (i : Int)) := by omega
  have h3I : ¬ ((s.size : Int) ≤ (i : Int) + 1) := by omega
  go_enter Tryd.func23, Tryd.ntmps23
  go_wp2
  go_loop [6] (fun e => ∃ k : Nat, i + 1 ≤ k ∧ k ≤ s.size ∧ e = .int .i64 k ∧ Hid (∀ j, i + 1 ≤ j → j < k → ldB (bt s j) = true)) (fun e => s.size - (intOf e).toNat)
  case atStart => exact ⟨i + 1, by omega, by omega, by go_num, fun j h h' => absurd h (by omega)⟩
  case round =>
    obtain ⟨k, hik, hk, rfl, hn⟩ := hrel
    have tail : (k = s.size ∨ ldB (bt s k) = false) → Hid (entE s i = k) := fun h => scan_eq hik hk (fun j a b => hn j a b) h
    by_cases hlt : k < s.size
    · by_cases hl : ldB (bt s k) = true
      · have hend : Hid (∀ j, i + 1 ≤ j → j < k + 1 → ldB (bt s j) = true) := by
          intro j a b
          by_cases e : j = k
          · subst e; exact hl
          · exact hn j a (by omega)
        clear tail
        rcases ld_parts hl with g1 | ⟨g1, g2⟩
        all_goals
          go_wp2_with (first | (go_at_call 17; refine (isLetter_any _ _).mono ?_; rintro e w' ⟨rfl, rfl⟩) | (go_at_call 18; refine (isDigit_any _ _).mono ?_; rintro e w' ⟨rfl, rfl⟩))
          go_round
          case rel => exact ⟨k + 1, by omega, by omega, by go_num, hend⟩
          case measure => simp [intOf]; omega
      · have hl : ldB (bt s k) = false := by simpa using hl
        obtain ⟨g1, g2⟩ := ld_noparts hl
        have hE := tail (.inr hl)
        clear tail hn hl
        by_cases h4 : i + 1 < k
        · have c4 : ((k : Int) == (i : Int) + 1) = false := by simp; omega
          have c5 : ((k : Int) == (s.size : Int)) = false := by simp; omega
          by_cases h5 : bt s k = 59
          · have c6 : (bt s k != 59) = false := by simp [h5]
            by_cases h6 : 0 < (namedS (s.extract (i + 1) k)).size
            · have hY : Hid (entT s i = namedS (s.extract (i + 1) k) ∧ entN s i = k + 1 - i) := by
                have := ent_yes (s := s) (i := i) ⟨h1, H2.out, h3, by rw [hE.out]; exact h4, by rw [hE.out]; exact hlt, by rw [hE.out]; exact h5, by rw [hE.out]; exact h6⟩
                rw [hE.out] at this; exact this
              have hne := nonempty_of h6
              clear h5
              go_wp2_with (first | (go_at_call 17; refine (isLetter_any _ _).mono ?_; rintro e w' ⟨rfl, rfl⟩) | (go_at_call 18; refine (isDigit_any _ _).mono ?_; rintro e w' ⟨rfl, rfl⟩) | (go_at_call 19; refine (named_any _ _).mono ?_; rintro e w' ⟨rfl, rfl⟩))
              go_ret2
              exact ⟨ret_si hY.out.1.symm (by rw [hY.out.2]; omega), rfl⟩
            · have hN := ent_no (s := s) (i := i) (fun h => h6 (by have := h.2.2.2.2.2.2; rw [hE.out] at this; exact this))
              have HN := hide hN
              have hne := empty_of (show (namedS (s.extract (i + 1) k)).size = 0 by omega)
              clear h5 h6 hN
              go_wp2_with (first | (go_at_call 17; refine (isLetter_any _ _).mono ?_; rintro e w' ⟨rfl, rfl⟩) | (go_at_call 18; refine (isDigit_any _ _).mono ?_; rintro e w' ⟨rfl, rfl⟩) | (go_at_call 19; refine (named_any _ _).mono ?_; rintro e w' ⟨rfl, rfl⟩))
              go_ret2
              exact ⟨ret_si HN.out.1.symm (by rw [HN.out.2]; rfl), rfl⟩
          · have c6 : (bt s k != 59) = true := by simp [h5]
            have hN := ent_no (s := s) (i := i) (fun h => h5 (by have := h.2.2.2.2.2.1; rw [hE.out] at this; exact this))
            have HN := hide hN
            clear h5 hN
            go_wp2_with (first | (go_at_call 17; refine (isLetter_any _ _).mono ?_; rintro e w' ⟨rfl, rfl⟩) | (go_at_call 18; refine (isDigit_any _ _).mono ?_; rintro e w' ⟨rfl, rfl⟩))
            go_ret2
            exact ⟨ret_si HN.out.1.symm (by rw [HN.out.2]; rfl), rfl⟩
        · obtain rfl : k = i + 1 := by omega
          have hN := ent_no (s := s) (i := i) (fun h => h4 (by have := h.2.2.2.1; rw [hE.out] at this; exact this))
          have HN := hide hN
          clear hN h4
          go_wp2_with (first | (go_at_call 17; refine (isLetter_any _ _).mono ?_; rintro e w' ⟨rfl, rfl⟩) | (go_at_call 18; refine (isDigit_any _ _).mono ?_; rintro e w' ⟨rfl, rfl⟩))
          go_ret2
          exact ⟨ret_si HN.out.1.symm (by rw [HN.out.2]; rfl), rfl⟩
    · obtain rfl : k = s.size := by omega
      have hE := tail (.inl rfl)
      have hN := ent_no (s := s) (i := i) (fun h => hlt (by have := h.2.2.2.2.1; rw [hE.out] at this; exact this))
      have HN := hide hN
      clear hN tail hn
      have c4 : ((s.size : Int) == (i : Int) + 1) = false := by simp; omega
      go_wp2
      go_ret2
      exact ⟨ret_si HN.out.1.symm (by rw [HN.out.2]; rfl), rfl⟩
end Go.Proofs.YteondohagdfgeaaDoor
