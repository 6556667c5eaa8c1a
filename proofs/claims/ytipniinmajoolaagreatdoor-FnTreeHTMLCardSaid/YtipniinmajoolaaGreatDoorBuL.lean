/- A row of nodes of blocks turned into a row of the package's blocks: impl.list. Printed by gen_bu2.py out of XMrg3's text. Conditions: as each states them. -/
import Derived.Test.YtipniinmajoolaaGreatDoorBu1
namespace Go.Proofs.YtipniinmajoolaaGreatDoor
open Go.RowKit
theorem info_blk : (Tryz.prog.info? 46).map (fun i => (i.zero, i.size, i.bytes)) = some (some .nilIface, 1, 16) := by kernel_rfl
def ListP (I : Nat → Value → World → Prop) (n : Nat) (w : World) (e : Ending) (w' : World) : Prop := ∃ (g cap : Nat) (vs : Nat → Value), e = .returned (.slice (some ⟨g, 0, none⟩) n cap) ∧ n ≤ cap ∧ cap ≤ 9223372036854775807 ∧
  Held (fun w2 => RowV 46 w2 g n vs ∧ ∀ k, k < n → I k (vs k) w2) w' w.heap.size w'.heap.size ∧ Below w.heap.size w w'
theorem blkrow_nil (w : World) : Calls Tryz.prog 17 #[.slice none 0 0] w fun e w' => e = .returned (.slice none 0 0) ∧ w = w' := by
  go_enter Tryz.func17, Tryz.ntmps17
  go_wp2
  go_loop [3, 8] (fun ov kv => ov = .slice none 0 0 ∧ kv = .int .i64 0) (fun _ _ => 0)
  case atStart => exact ⟨rfl, rfl⟩
  case round =>
    obtain ⟨rfl, rfl⟩ := hrel
    go_wp2
    go_ret
    exact ⟨rfl, rfl⟩
theorem blkrow_end {I : Nat → Value → World → Prop} {n : Nat} {ov : Value} {vs : List Value} {w wr : World} (hn : 0 < n) (hvl : vs.length = n) (hown : wr.ownsRow w.heap.size 46 1 ov n vs) (hBe : Below w.heap.size w wr) (hV : Entries I w.heap.size ov vs wr) : ListP I n w (.returned ov) wr := by
  rcases hown.2 with ⟨_, h0⟩ | ⟨g, cap, cur, rfl, hbg, hg, hnc, hcm, hcs, htake⟩
  · omega
  · have hlt : g < wr.heap.size := (Array.getElem?_eq_some_iff.1 hg).1
    refine ⟨g, cap, fun k => vs.getD k .nilIface, rfl, hnc, by unfold maxLen at hcm; omega, fun w2 hw => ⟨⟨cur, ?_, fun k hk => ?_⟩, fun k hk => ?_⟩, hBe⟩
    · show w2.heap[g]? = _
      rw [hw g hbg hlt]; exact hg
    · have h1 : vs[k]? = some (vs.getD k .nilIface) := by rw [List.getD_eq_getElem?_getD, List.getElem?_eq_getElem (by omega), Option.getD_some]
      have h2 : cur[k]? = vs[k]? := by rw [← htake, Nat.mul_one, List.getElem?_take_of_lt hk, Array.getElem?_toList]
      exact h2.trans h1
    · have h1 : vs[k]? = some (vs.getD k .nilIface) := by rw [List.getD_eq_getElem?_getD, List.getElem?_eq_getElem (by omega), Option.getD_some]
      obtain ⟨lo, hi, q1, q2, q3, _⟩ := hV k _ h1
      exact (q1.wide q2 q3) w2 hw
set_option maxHeartbeats 2000000 in
set_option maxRecDepth 100000 in
theorem blkrow_of (r n cap : Nat) (nd : Nat → Array Value) (I : Nat → Value → World → Prop) (w : World) (hn : n ≤ 1000) (hn0 : 0 < n) (hr : ∀ k, k < n → w.rangeAt r (k * 16) (nd k).toList) (hlt : r < w.heap.size) (hz : ∀ k, k < n → (nd k).size = 16 ∧ (nd k).all (·.oneCell') = true)
    (hp : ∀ k, k < n → ∀ W, Below w.heap.size w W → Calls Tryz.prog 12 #[.agg (nd k)] W (PutP (I k) W)) :
    Calls Tryz.prog 17 #[.slice (some ⟨r, 0, none⟩) n cap] w (ListP I n w) := by
  obtain ⟨i0, hi0, hz0, hz1, hz2⟩ := info_parts info_blk
  have hr := hide hr
  have hz := hide hz
  have hp := hide hp
  go_enter Tryz.func17, Tryz.ntmps17
  go_wp2
  go_loopw [3, 8] (fun ov kv wr => ∃ (m : Nat) (vs : List Value), m ≤ n ∧ kv = .int .i64 m ∧ Hid (vs.length = m) ∧ wr.ownsRow w.heap.size 46 1 ov m vs ∧ Below w.heap.size w wr ∧ Hid (Entries I w.heap.size ov vs wr)) (fun _ kv _ => n - (intOf kv).toNat)
  case atStart => exact ⟨0, [], by omega, rfl, rfl, World.ownsRow_nil _ _ _ _, Below.refl _ _, fun k u h => by simp at h⟩
  case round =>
    obtain ⟨m, vs, hm, rfl, hvl, hown, hBe, hV⟩ := hrel
    by_cases hl : m < n
    · have hlI : (m : Int) < (n : Int) := by omega
      have hcell : wr.rangeAt r (m * 16) (nd m).toList := fun j v hv => by
        rw [hBe.cell (p := ⟨r, m * 16 + j, none⟩) hlt]; exact hr.out m hl j v hv
      obtain ⟨hz16, hone⟩ := hz.out m hl
      have hsz : (Tryz.prog.info? 34).map (·.size) = some (nd m).size := by rw [hz16]; exact info_node
      have hszl : (Tryz.prog.info? 34).map (·.size) = some (nd m).toList.length := by rw [Array.length_toList]; exact hsz
      have hW1 : Below w.heap.size w (wr.alloc (.cells (nd m) 34)) := hBe.alloc hBe.size _
      have C := hide (hp.out m hl _ hW1)
      have HC := hide hcell
      have HZ := hide hsz
      have HZL := hide hszl
      have H16 := hide hz16
      have H1 := hide hone
      clear hcell hsz hszl hz16 hone
      go_wp2_with (first | (refine wpList_load_mid rfl 34 (.tmp 10) rfl r (m * 16) rfl (nd m).toList _ HC.out Tryz.underlying34 rfl HZL.out ?_) | (refine wpList_store_new rfl 34 (.tmp 5) (.tmp 11) rfl wr _ (nd m) rfl rfl HZ.out (by rw [H16.out]; rfl) H1.out ?_) | (refine wpList_load_new rfl 34 (.tmp 5) rfl wr (nd m) _ rfl Tryz.underlying34 rfl HZ.out ?_) | (go_at_call 12; refine C.out.mono ?_; rintro e w1 ⟨tv, gv, rfl, hQ1, hb1⟩; have hq1 := hb1.size; rw [World.size_alloc'] at hq1; have hown1 := own_below (hown.alloc (.cells (nd m) 34)) hb1 (fun g hg => by have := (hown.lt g hg).2; rw [World.size_alloc']; omega)) | (at_builtin; refine wpList_append_lies _ rfl (.tmp 12) (.tmp 15) 62 rfl w.heap.size 46 i0 .nilIface 1 16 Tryz.underlying62 hi0 hz0 hz1 hz2 rfl (by decide) _ m vs rfl (hown1.alloc _) ⟨w1.heap.size, 0, none⟩ 1 1 [.iface tv (ptr gv)] rfl rfl (cellOne _ _ _) (by simp [Value.oneCell']) (by omega) (by unfold maxLen; omega) (by omega) (by have := hBe.size; rw [World.size_alloc']; omega) _ rfl ?_; intro g2 cap2 w2 hown2 hg2 hat2 hlt2))
      have hat3 := hide hat2
      have hE := hide (entries_step (n := m + 1) (cap := cap2) (v := .iface tv (ptr gv)) hV.out hBe.size (fun g hg => (hown.lt g hg).2) hb1 (by rw [hvl.out]; exact hQ1) hg2 hat3.out)
      have hb2 : Below w.heap.size w w2 := by
        have h1 : Below w.heap.size w w1 := hW1.trans (hb1.mono (by have := hBe.size; rw [World.size_alloc']; omega))
        exact (h1.alloc h1.size _).grown hg2 (by have := h1.size; rw [World.size_alloc']; omega) (fun k hk => (hown.lt k hk).1)
      clear hat2 hat3
      go_roundw
      case rel => exact ⟨m + 1, vs ++ [.iface tv (ptr gv)], by omega, by go_num, by unfold Hid; rw [List.length_append, hvl.out]; rfl, hown2, hb2, hE⟩
      case measure => simp [intOf]; omega
    · have hmn : Hid (m = n) := by unfold Hid; omega
      have hlI : ¬ ((m : Int) < (n : Int)) := by omega
      have hE := hide (blkrow_end (I := I) hn0 (by rw [hvl.out, hmn.out]) (by rw [← hmn.out]; exact hown) hBe hV.out)
      clear hl
      go_wp2
      go_ret
      exact hE.out
end Go.Proofs.YtipniinmajoolaaGreatDoor
