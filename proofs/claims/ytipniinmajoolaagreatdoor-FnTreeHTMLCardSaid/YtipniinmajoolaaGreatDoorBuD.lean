/- A text cut into lines: what strings.Lines' function yields. Conditions: a text of at most 100 bytes that ends with a line feed. -/
import Derived.Test.YtipniinmajoolaaGreatDoorBuC
import Derived.Test.YtipniinmajoolaaGreatDoorPr7
namespace Go.Proofs.YtipniinmajoolaaGreatDoor
open Go.RowKit Go.Shelf
attribute [local go_sem] Oper.semAt_some
abbrev lfB : ByteArray := ⟨#[10]⟩
theorem find_lf {s : ByteArray} (h : EndLf s) : ∃ k : Nat, Lib.indexByte s.data.toList (10 : Int).toNat.toUInt8 = (k : Int) ∧ k < s.size ∧ bt s k = 10 := by
  obtain ⟨h1, h2⟩ := h
  have hl := bt_list s (k := s.size - 1) (by omega)
  rw [h2] at hl
  have hge := Lib.indexByte_ge s.data.toList (10 : Int).toNat.toUInt8
  by_cases e : Lib.indexByte s.data.toList (10 : Int).toNat.toUInt8 = -1
  · exact absurd hl (Lib.indexByte_none e _)
  · obtain ⟨k, hk⟩ : ∃ k : Nat, Lib.indexByte s.data.toList (10 : Int).toNat.toUInt8 = (k : Int) := ⟨(Lib.indexByte s.data.toList (10 : Int).toNat.toUInt8).toNat, by omega⟩
    have h3 := (Lib.indexByte_some hk).1
    have hks : k < s.size := by
      have := (List.getElem?_eq_some_iff.1 h3).1
      simpa using this
    refine ⟨k, hk, hks, ?_⟩
    rw [bt_list s hks] at h3
    have h4 : UInt8.ofNat (bt s k).toNat = 10 := Option.some.inj h3
    have q1 := bt_nonneg s k
    have q2 := bt_le s k
    have h5 := congrArg UInt8.toNat h4
    rw [UInt8.toNat_ofNat'] at h5
    have : (10 : UInt8).toNat = 10 := rfl
    omega
theorem trim_lf (L : ByteArray) : (⟨(Lib.trimSuffix (L ++ lfB).data.toList lfB.data.toList).toArray⟩ : ByteArray) = L := by
  have e : (L ++ lfB).data.toList = L.data.toList ++ [10] := by simp [ByteArray.data_append]
  rw [e]
  have e2 : lfB.data.toList = [10] := rfl
  rw [e2]
  unfold Lib.trimSuffix Lib.hasSuffix
  rw [if_pos (by simp)]
  simp
/-- Lines put together. -/
def catL (l : List ByteArray) : ByteArray := catY (fun k => l.getD k ⟨#[]⟩ ++ lfB) l.length
theorem catY_congr {f g : Nat → ByteArray} : ∀ {n : Nat}, (∀ k, k < n → f k = g k) → catY f n = catY g n
  | 0, _ => rfl
  | n + 1, h => by rw [catY, catY, catY_congr (fun k hk => h k (by omega)), h n (by omega)]
theorem catL_snoc (l : List ByteArray) (L : ByteArray) : catL (l ++ [L]) = catL l ++ (L ++ lfB) := by
  unfold catL
  rw [List.length_append, List.length_singleton, catY]
  congr 1
  · refine catY_congr fun k hk => ?_
    rw [List.getD_eq_getElem?_getD, List.getD_eq_getElem?_getD, List.getElem?_append_left hk]
  · rw [List.getD_eq_getElem?_getD, List.getElem?_append_right (Nat.le_refl _), Nat.sub_self]
    rfl
/-- The rest of the text, in the box. -/
structure Rest (x : ByteArray) (pre : List ByteArray) (rest : ByteArray) : Prop where
  e : catL pre ++ rest = x
  l : LineEnd rest
theorem ext_cut {s : ByteArray} {k : Nat} (h : k < s.size) (hb : bt s k = 10) : s.extract 0 (k + 1) = s.extract 0 k ++ lfB := by
  refine ext_bt (by rw [ByteArray.size_append, ByteArray.size_extract, ByteArray.size_extract]; show _ = _ + 1; omega) fun j hj => ?_
  rw [ByteArray.size_extract] at hj
  rw [bt_extract _ _ _ _ (by omega) (by omega)]
  by_cases e : j < k
  · rw [bt_left _ _ (by rw [ByteArray.size_extract]; omega), bt_extract _ _ _ _ (by omega) (by omega)]
  · obtain rfl : j = k := by omega
    have h1 : bt (s.extract 0 j ++ lfB) j = bt lfB 0 := by
      have := bt_right (s.extract 0 j) lfB 0
      rwa [ByteArray.size_extract, show min j s.size - 0 + 0 = j by omega] at this
    rw [h1, Nat.zero_add, hb]; decide
theorem ext_split (s : ByteArray) {k : Nat} (h : k ≤ s.size) : s.extract 0 k ++ s.extract k s.size = s := by
  refine ext_bt (by rw [ByteArray.size_append, ByteArray.size_extract, ByteArray.size_extract]; omega) fun j hj => ?_
  rw [ByteArray.size_append, ByteArray.size_extract, ByteArray.size_extract] at hj
  by_cases e : j < k
  · rw [bt_left _ _ (by rw [ByteArray.size_extract]; omega), bt_extract _ _ _ _ (by omega) (by omega)]
    congr 1; omega
  · obtain ⟨i, rfl⟩ : ∃ i, j = k + i := ⟨j - k, by omega⟩
    have h1 : bt (s.extract 0 k ++ s.extract k s.size) (k + i) = bt (s.extract k s.size) i := by
      have := bt_right (s.extract 0 k) (s.extract k s.size) i
      rwa [ByteArray.size_extract, show min k s.size - 0 + i = k + i by omega] at this
    rw [h1, bt_extract _ _ _ _ (by omega) (by omega)]
theorem Rest.next {x : ByteArray} {pre : List ByteArray} {rest : ByteArray} {k : Nat} (h : Rest x pre rest) (hk : k < rest.size) (hb : bt rest k = 10) : Rest x (pre ++ [rest.extract 0 k]) (rest.extract (k + 1) rest.size) := by
  obtain ⟨h1, h2⟩ := h
  refine ⟨?_, ?_⟩
  · rw [catL_snoc, ← ext_cut hk hb, ByteArray.append_assoc, ext_split rest (by omega)]; exact h1
  · unfold LineEnd at h2 ⊢
    rw [ByteArray.size_extract]
    by_cases e : k + 1 = rest.size
    · left; omega
    · right
      rw [bt_extract _ _ _ _ (by omega) (by omega)]
      rcases h2 with h2 | h2
      · omega
      · rw [← h2]; congr 1; omega
end Go.Proofs.YtipniinmajoolaaGreatDoor
