/- The builder of documents out of bytes: its next number, its words. Conditions: the builder's block holds at most 300 readable bytes. -/
import Derived.Test.YtipniinmajoolaaGreatDoorBase
import Derived.Deep.QuietTactic
import Derived.BigQuiet
import Derived.Test.YtipniinmajoolaaGreatDoorProg
namespace Go.Proofs.YtipniinmajoolaaGreatDoor
open Go.RowKit
/-- The bytes can be read. -/
def BytesR (bb : Nat) (bv : Value) (N : Nat) (w : World) : Prop :=
  N ≤ 300 ∧ bb < w.heap.size ∧ ∃ (ao : Option Addr) (cap : Nat), bv = .slice ao N cap ∧ ∀ k, k < N → ∃ (g o : Nat) (z : Int), ao = some ⟨g, o, none⟩ ∧ g < bb ∧ 0 ≤ z ∧ z ≤ 255 ∧ w.cell? ⟨g, o + k, none⟩ = some (.int .u8 z)
/-- The builder's block. -/
def BOk (bb : Nat) (bv : Value) (N : Nat) (w : World) : Prop :=
  ∃ (a : Nat) (sz dp : Int), a ≤ N ∧ w.heap[bb]? = some (.cells #[bv, .int .i64 a, .int .i64 sz, .bool false, .int .i64 dp] 39 (0, 0)) ∧ BytesR bb bv N w
theorem BytesR.grown {bb : Nat} {bv : Value} {N : Nat} {w w' : World} (h : BytesR bb bv N w) (hg : w.grownBy w' (some bb)) : BytesR bb bv N w' := by
  obtain ⟨h1, h2, ao, cap, h3, h4⟩ := h
  refine ⟨h1, Nat.lt_of_lt_of_le h2 hg.size, ao, cap, h3, fun k hk => ?_⟩
  obtain ⟨g, o, z, q1, q2, q4, q5, q6⟩ := h4 k hk
  exact ⟨g, o, z, q1, q2, q4, q5, hg.cell q6 (fun e => by have e2 : g = bb := Option.some.inj e; omega)⟩
theorem grown_trans {a b c : World} {r : Option Nat} (h : a.grownBy b r) (k : b.grownBy c r) : a.grownBy c r :=
  ⟨k.os.trans h.os, k.tape.trans h.tape, k.output.trans h.output, Nat.le_trans h.size k.size, fun i hi hr => (k.block i (Nat.lt_of_lt_of_le hi h.size) hr).trans (h.block i hi hr)⟩
theorem grown_drewN {a b : World} {r : Option Nat} (h : a.grownBy b r) (n : Nat) : a.grownBy (b.drewN n) r := ⟨h.os, h.tape, h.output, h.size, h.block⟩
theorem grown_drew {a b : World} {r : Option Nat} (h : a.grownBy b r) : a.grownBy b.drew r := ⟨h.os, h.tape, h.output, h.size, h.block⟩
theorem grown_ofDrew {a b : World} {r : Option Nat} (h : a.drew.grownBy b r) : a.grownBy b r := ⟨h.os, h.tape, h.output, h.size, h.block⟩
theorem grown_setCell (w : World) (b j : Nat) (v : Value) : w.grownBy (w.setCell ⟨b, j, none⟩ v) (some b) :=
  ⟨rfl, rfl, rfl, by simp [World.setCell], fun k _ hk => Below.heap_setCell _ _ _ _ (fun e => hk (by rw [e]))⟩
theorem heap_cell {w : World} {g : Nat} {cs : Array Value} {t : TypeId} (h : w.heap[g]? = some (.cells cs t (0, 0))) (j : Nat) : w.cell? ⟨g, j, none⟩ = cs[j]? := by
  simp [World.cell?, h]
theorem heap_free {w : World} {g : Nat} {cs : Array Value} {t : TypeId} (h : w.heap[g]? = some (.cells cs t (0, 0))) (j : Nat) : w.frozen? ⟨g, j, none⟩ = false := by
  simp [World.frozen?, h]
theorem BOk.grown {bb : Nat} {bv : Value} {N : Nat} {w w' : World} {a : Nat} {sz dp : Int} (hR : BytesR bb bv N w) (ha : a ≤ N) (hg : w.grownBy w' (some bb)) (hb : w'.heap[bb]? = some (.cells #[bv, .int .i64 a, .int .i64 sz, .bool false, .int .i64 dp] 39 (0, 0))) : BOk bb bv N w' := ⟨a, sz, dp, ha, hb, hR.grown hg⟩
theorem emod_in {z m : Int} (hm : 0 < m) : 0 ≤ z % m ∧ z % m < m := ⟨Int.emod_nonneg z (by omega), Int.emod_lt_of_pos z hm⟩
set_option maxHeartbeats 1000000 in
set_option maxRecDepth 100000 in
theorem next_any (bb : Nat) (bv : Value) (N m : Nat) (w : World) (hm : 0 < m) (hm2 : m ≤ 100) (hB : BOk bb bv N w) :
    Calls Tryz.prog 14 #[.pointer (some ⟨bb, 0, none⟩), .int .i64 m] w fun e w' => ∃ r : Nat, e = .returned (.int .i64 r) ∧ r < m ∧ BOk bb bv N w' ∧ w.grownBy w' (some bb) := by
  obtain ⟨a, sz, dp, ha, hb, hR⟩ := hB
  have c0 : w.cell? ⟨bb, 0, none⟩ = some bv := (heap_cell hb 0).trans rfl
  have c1 : w.cell? ⟨bb, 1, none⟩ = some (.int .i64 a) := (heap_cell hb 1).trans rfl
  have f1 : w.frozen? ⟨bb, 1, none⟩ = false := heap_free hb 1
  have HB := hide hb
  have HR := hide hR
  obtain ⟨hN, hbl, ao, cap, rfl, hz⟩ := hR
  by_cases hlt : a < N
  · obtain ⟨g, o, z, rfl, hgb, z0, z1, hc⟩ := hz a hlt
    have hk : ¬ ((N : Int) ≤ (a : Int)) := by omega
    have HZ := hide (emod_in (z := z) (m := m) (by omega))
    clear hz hb
    go_enter Tryz.func14, Tryz.ntmps14
    go_wp2
    go_quiet (fail)
    go_wp2
    generalize hw1 : (w.drewN nq).setCell ⟨bb, 1, none⟩ (.int .i64 ((a : Int) + 1)) = w1
    have hg1 : w.grownBy w1 (some bb) := by rw [← hw1]; exact grown_trans (grown_drewN (World.grownBy.refl w _) nq) (grown_setCell (w.drewN nq) bb 1 _)
    have hs : w1.heap[bb]? = some (.cells #[.slice (some ⟨g, o, none⟩) N cap, .int .i64 (a + 1 : Nat), .int .i64 sz, .bool false, .int .i64 dp] 39 (0, 0)) := by
      rw [← hw1]; exact heap_setCell_same w bb 1 _ _ _ HB.out
    have d0 : w1.cell? ⟨bb, 0, none⟩ = some (.slice (some ⟨g, o, none⟩) N cap) := (heap_cell hs 0).trans rfl
    have d1 : w1.cell? ⟨bb, 1, none⟩ = some (.int .i64 ((a : Int) + 1)) := (heap_cell hs 1).trans rfl
    have hc2 : w1.cell? ⟨g, o + a, none⟩ = some (.int .u8 z) := hg1.cell hc (fun e => by have e2 : g = bb := Option.some.inj e; omega)
    have HG := hide hg1
    have HS := hide hs
    clear hw1 hg1 hs hc
    have hlI : (a : Int) < (N : Int) := by omega
    go_quiet (fail)
    go_wp2
    go_ret
    obtain ⟨q1, q2⟩ := HZ.out
    exact ⟨(z % m).toNat, ret_int (Int.toNat_of_nonneg q1).symm, by omega, ⟨a + 1, sz, dp, by omega, HS.out, (HR.out.grown (grown_drewN HG.out _))⟩, grown_drewN HG.out _⟩
  · have hk : (N : Int) ≤ (a : Int) := by omega
    clear hz hb
    go_enter Tryz.func14, Tryz.ntmps14
    go_wp2
    go_quiet (fail)
    go_wp2
    go_ret
    exact ⟨0, rfl, hm, ⟨a, sz, dp, ha, HB.out, HR.out⟩, grown_drewN (World.grownBy.refl _ _) _⟩
/-- A word: small letters. -/
def Word (x : ByteArray) : Prop := 0 < x.size ∧ x.size ≤ 4 ∧ ∀ k, k < x.size → 97 ≤ bt x k ∧ bt x k ≤ 122
def abc : ByteArray := ⟨#[97, 98, 99, 100, 101, 102, 103, 104, 105, 106, 107, 108, 109, 110, 111, 112, 113, 114, 115, 116, 117, 118, 119, 120, 121, 122]⟩
def only : ByteArray := ⟨#[111, 110, 108, 121, 119, 111, 114, 100, 115]⟩
theorem abc_bt : ∀ k, k < 26 → 97 ≤ bt abc k ∧ bt abc k ≤ 122 := by decide
theorem only_bt : ∀ k, k < 9 → 97 ≤ bt only k ∧ bt only k ≤ 122 := by decide
theorem word_of {k r : Nat} (hk : k < 26) (hr : r < 4) : Word (abc.extract k (k + 1) ++ only.extract 0 r) := by
  have z1 : (abc.extract k (k + 1)).size = 1 := by rw [ByteArray.size_extract]; have : abc.size = 26 := rfl; omega
  have z2 : (only.extract 0 r).size = r := by rw [ByteArray.size_extract]; have : only.size = 9 := rfl; omega
  refine ⟨by rw [ByteArray.size_append]; omega, by rw [ByteArray.size_append]; omega, fun j hj => ?_⟩
  rw [ByteArray.size_append] at hj
  by_cases h : j < 1
  · rw [bt_left _ _ (by omega), bt_extract _ _ _ _ (by omega) (by have : abc.size = 26 := rfl; omega)]
    exact abc_bt _ (by omega)
  · obtain ⟨q, rfl⟩ : ∃ q, j = (abc.extract k (k + 1)).size + q := ⟨j - 1, by omega⟩
    rw [bt_right, bt_extract _ _ _ _ (by omega) (by have : only.size = 9 := rfl; omega)]
    exact only_bt _ (by omega)
set_option maxHeartbeats 1000000 in
set_option maxRecDepth 100000 in
theorem word_any (bb : Nat) (bv : Value) (N : Nat) (w : World) (hB : BOk bb bv N w) :
    Calls Tryz.prog 34 #[.pointer (some ⟨bb, 0, none⟩)] w fun e w' => ∃ x : ByteArray, e = .returned (.string x) ∧ Word x ∧ BOk bb bv N w' ∧ w.grownBy w' (some bb) := by
  have N1 := hide (next_any bb bv N 26 w (by omega) (by omega) hB)
  have N2 := hide (fun w1 h => next_any bb bv N 4 w1 (by omega) (by omega) h)
  clear hB
  go_enter Tryz.func34, Tryz.ntmps34
  go_wp2_with (go_at_call 14; refine N1.out.mono ?_; rintro e w1 ⟨k, rfl, hk, hB1, hg1⟩)
  have hD : Hid (BOk bb bv N w1.drew) := hB1
  clear hB1
  have hw1 : IntKind.i64.wrap ((k : Int) + 1) = ((k + 1 : Nat) : Int) := by rw [IntKind.wrap_i64] <;> omega
  have hk1 : ((k + 1 : Nat) : Int) ≤ 26 := by omega
  have hk2 : (k : Int) ≤ ((k + 1 : Nat) : Int) := by omega
  have hk3 : k + 1 ≤ 26 := by omega
  have hk4 : k ≤ k + 1 := by omega
  go_region_with (go_at_call 14; refine (N2.out _ hD.out).mono ?_; rintro e w2 ⟨r, rfl, hr, hB2, hg2⟩)
  all_goals
    go_wp2
    go_ret
    exact ⟨_, rfl, word_of hk hr, hB2, grown_trans hg1 (grown_ofDrew hg2)⟩
end Go.Proofs.YtipniinmajoolaaGreatDoor
