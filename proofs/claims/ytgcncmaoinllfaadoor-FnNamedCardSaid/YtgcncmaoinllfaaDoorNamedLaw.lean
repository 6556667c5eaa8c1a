/- The plain law of FnNamed, and its walk. Conditions: the table of entities holds its twelve rows. -/
import Derived.Test.YtgcncmaoinllfaaDoorEntity
import Derived.Test.YtgcncmaoinllfaaDoorTexts
namespace Go.Proofs.YtgcncmaoinllfaaDoor
open Go.RowKit
abbrev alfa : ByteArray := ⟨#[97, 98, 99, 100, 101, 102, 103, 104, 105, 106, 107, 108, 109, 110, 111, 112, 113, 114, 115, 116, 117, 118, 119, 120, 121, 122, 65, 79, 85]⟩
theorem alfa_all : ∀ n : Fin 256, (!inA alfa (n.val : Int) || (decide ((n.val : Int) ≠ 35) && decide ((n.val : Int) ≠ 59))) = true := by decide +kernel
def ampS (name : ByteArray) : ByteArray := ⟨#[38]⟩ ++ name ++ ⟨#[59]⟩
theorem amp_size (name : ByteArray) : (ampS name).size = name.size + 2 := by
  unfold ampS
  rw [ByteArray.size_append, ByteArray.size_append, show (⟨#[38]⟩ : ByteArray).size = 1 from rfl, show (⟨#[59]⟩ : ByteArray).size = 1 from rfl]; omega
theorem amp_mid (name : ByteArray) {k : Nat} (h : k < name.size) : bt (ampS name) (1 + k) = bt name k := by
  unfold ampS
  rw [bt_left _ _ (by rw [ByteArray.size_append, show (⟨#[38]⟩ : ByteArray).size = 1 from rfl]; omega)]
  exact bt_right ⟨#[38]⟩ name k
theorem amp_end (name : ByteArray) : bt (ampS name) (1 + name.size) = 59 := by
  unfold ampS
  have := bt_right (⟨#[38]⟩ ++ name) ⟨#[59]⟩ 0
  rw [ByteArray.size_append, show (⟨#[38]⟩ : ByteArray).size = 1 from rfl, Nat.add_zero] at this
  rw [this]; decide
theorem alfa_parts {name : ByteArray} (h : onlyB name alfa 10 = true) : name.size ≤ 10 ∧ ∀ k, k < name.size → bt name k ≠ 35 ∧ bt name k ≠ 59 := by
  unfold onlyB at h
  rw [Bool.and_eq_true] at h
  refine ⟨by have := of_decide_eq_true h.1; omega, fun k hk => ?_⟩
  have h4 := allB_all h.2 k hk
  have h5 := byte_all (q := fun c => !inA alfa c || (decide (c ≠ 35) && decide (c ≠ 59))) alfa_all name k
  simp only [h4] at h5
  simpa using h5
theorem amp_no {name : ByteArray} (h : onlyB name alfa 10 = true) : 0 + 1 < (ampS name).size → bt (ampS name) 0 = 38 → bt (ampS name) (0 + 1) ≠ 35 := by
  intro _ _
  obtain ⟨_, h2⟩ := alfa_parts h
  by_cases h0 : 0 < name.size
  · have := amp_mid name h0
    rw [Nat.add_zero] at this
    rw [Nat.zero_add, this]; exact (h2 0 h0).1
  · have := amp_end name
    rw [show name.size = 0 by omega, Nat.add_zero] at this
    rw [Nat.zero_add, this]; decide
theorem of_toList {s : ByteArray} {l : List UInt8} (h : s.toList = l) : s = ⟨l.toArray⟩ := by
  rw [Lib.toList_data] at h
  apply ByteArray.ext
  rw [← h]
theorem amp_list (name : ByteArray) : (ampS name).toList = 38 :: (name.toList ++ [59]) := by
  unfold ampS
  rw [Lib.toList_data, Lib.toList_data]
  simp [ByteArray.data_append]
theorem named_four (x : ByteArray) (h : 0 < (namedS x).size) : (x.toList = [97, 109, 112] ∧ namedS x = ⟨#[38]⟩) ∨ (x.toList = [108, 116] ∧ namedS x = ⟨#[60]⟩) ∨ (x.toList = [103, 116] ∧ namedS x = ⟨#[62]⟩) ∨ (x.toList = [113, 117, 111, 116] ∧ namedS x = ⟨#[34]⟩) := by
  unfold namedS at h ⊢
  split at h
  · rename_i g; exact .inl ⟨by simpa using g, by rw [if_pos g]⟩
  · rename_i g1
    rw [if_neg g1]
    split at h
    · rename_i g; exact .inr (.inl ⟨by simpa using g, by rw [if_pos g]⟩)
    · rename_i g2
      rw [if_neg g2]
      split at h
      · rename_i g; exact .inr (.inr (.inl ⟨by simpa using g, by rw [if_pos g]⟩))
      · rename_i g3
        rw [if_neg g3]
        split at h
        · rename_i g; exact .inr (.inr (.inr ⟨by simpa using g, by rw [if_pos g]⟩))
        · exact absurd h (by decide)
/-- What the table says of the four names. -/
theorem he_four {name : ByteArray} (h : 0 < (namedS name).size) : heOk (ampS name) = true ∧ heV (ampS name) = namedS name := by
  have ha := amp_list name
  rcases named_four name h with ⟨h1, h2⟩ | ⟨h1, h2⟩ | ⟨h1, h2⟩ | ⟨h1, h2⟩
  all_goals
    rw [h1] at ha
    rw [h2, of_toList ha]
    decide +kernel
theorem named_law {name : ByteArray} (h : onlyB name alfa 10 = true) (hc : entC (ampS name) 0) : heOk (ampS name) = true ∧ heV (ampS name) = entT (ampS name) 0 ∧ entN (ampS name) 0 ≠ 0 := by
  obtain ⟨_, h2⟩ := alfa_parts h
  obtain ⟨e1, e2⟩ := ent_yes hc
  obtain ⟨_, _, _, c4, c5, c6, c7⟩ := hc
  have hz := amp_size name
  have hE : entE (ampS name) 0 = 1 + name.size := by
    rcases Nat.lt_or_ge (entE (ampS name) 0) (1 + name.size) with hlt | hge
    · have := amp_mid name (k := entE (ampS name) 0 - 1) (by omega)
      rw [show 1 + (entE (ampS name) 0 - 1) = entE (ampS name) 0 by omega, c6] at this
      exact absurd this.symm (h2 _ (by omega)).2
    · omega
  have hx : (ampS name).extract (0 + 1) (entE (ampS name) 0) = name := by
    rw [hE]
    refine ext_bt (by rw [ByteArray.size_extract]; omega) fun k hk => ?_
    rw [ByteArray.size_extract] at hk
    rw [bt_extract _ _ _ _ (by omega) (by omega)]
    exact amp_mid name (by omega)
  rw [hx] at e1 c7
  obtain ⟨g1, g2⟩ := he_four c7
  exact ⟨g1, by rw [g2, e1], by omega⟩
set_option maxHeartbeats 1000000 in
theorem named_walk (a0 : ByteArray) (w0 : a0.size ≤ maxLen) (w : World) (hE : EntIs w) :
    Calls Tryd.prog 3 #[.string a0] w fun e w' => e = .returned (.bool true) ∧ Below w.heap.size w w' := by
  have W0 := hide w0
  have HE := hide hE
  clear hE
  unfold maxLen at w0
  by_cases h1 : 2147483647 < (a0.size : Int)
  · go_enter Tryd.func3, Tryd.ntmps3
    go_wp2
    go_ret
    exact ⟨rfl, Below.refl _ _⟩
  by_cases g0 : onlyB a0 alfa 10 = true
  case neg =>
    have g0 : onlyB a0 alfa 10 = false := by simpa using g0
    go_enter Tryd.func3, Tryd.ntmps3
    go_wp2_with (go_at_call 4; refine (only_any _ _ _ _ W0.out).mono ?_; rintro e w' ⟨rfl, rfl⟩)
    go_ret
    exact ⟨rfl, Below.refl _ _⟩
  obtain ⟨h10, _⟩ := alfa_parts g0
  have hz := amp_size a0
  have C : ∀ wx : World, Calls Tryd.prog 5 #[.string (⟨#[38]⟩ ++ a0 ++ ⟨#[59]⟩), .int .i64 0] wx fun e w' => e = .returned (.tuple #[.string (entT (ampS a0) 0), .int .i64 (entN (ampS a0) 0 : Nat)]) ∧ wx = w' :=
    fun wx => entity_any (ampS a0) 0 wx (by omega) (by omega) (amp_no g0)
  have CH := hide C
  clear C hz
  by_cases hc : entC (ampS a0) 0
  · obtain ⟨l1, l2, l3⟩ := named_law g0 hc
    have L1 := hide l1
    have L2 := hide l2
    have hn : ((entN (ampS a0) 0 : Int) == 0) = false := by simp; omega
    clear hc l1 l2 l3
    have D : ∀ wx : World, EntIs wx → Calls Tryd.prog 15 #[.string (⟨#[38]⟩ ++ a0 ++ ⟨#[59]⟩)] wx fun e w' => e = .returned (.tuple #[.string (entT (ampS a0) 0), .bool true]) ∧ wx = w' :=
      fun wx h => (htmlEntity_any (ampS a0) wx h).mono fun e w' h => by rw [L1.out, L2.out] at h; exact h
    have DH := hide D
    clear D
    go_enter Tryd.func3, Tryd.ntmps3
    go_wp2_with (first | (go_at_call 4; refine (only_any _ _ _ _ W0.out).mono ?_; rintro e w' ⟨rfl, rfl⟩) | (go_at_call 5; refine (CH.out _).mono ?_; rintro e w' ⟨rfl, rfl⟩) | (go_at_call 15; refine (DH.out _ HE.out).mono ?_; rintro e w' ⟨rfl, rfl⟩) | go_in)
    go_ret
    exact ⟨ret_bool (by simp), Below.refl _ _⟩
  · obtain ⟨l1, l2⟩ := ent_no hc
    rw [l2] at CH
    clear hc l1 l2
    go_enter Tryd.func3, Tryd.ntmps3
    go_wp2_with (first | (go_at_call 4; refine (only_any _ _ _ _ W0.out).mono ?_; rintro e w' ⟨rfl, rfl⟩) | (go_at_call 5; refine (CH.out _).mono ?_; rintro e w' ⟨rfl, rfl⟩))
    go_ret
    exact ⟨rfl, Below.refl _ _⟩
end Go.Proofs.YtgcncmaoinllfaaDoor
