/- Nodes of blocks turned into the package's blocks: impl.built at lists. Printed by gen_buj.py. Conditions: as each states them. -/
import Derived.Test.YtipniinmajoolaaGreatDoorBuI
import Derived.WalkMore
import Derived.Deep.Cut
import Derived.Deep.CutRange
namespace Go.Proofs.YtipniinmajoolaaGreatDoor
open Go.RowKit
set_option maxHeartbeats 4000000 in
set_option maxRecDepth 100000 in
theorem built_list_of (d : Nat) (IH : BuiltD d) (w : World) (r n cap : Nat) (num : Int) (b : UInt8) (l : Bool) (zs : Nat → ByteArray) (kcs : Nat → Array Value) (s : Nat) (hb : b.toNat < 128) (hs : max num 0 = (s : Int)) (hs30 : s < 30) (hsn : s = num.toNat)
    (hbu : decide (num < 0) = true ∧ ((b.toNat : Int) == 46) = false ∧ ((b.toNat : Int) == 41) = false ∨ decide (num < 0) = false ∧ (((b.toNat : Int) == 46) = true ∨ ((b.toNat : Int) == 46) = false ∧ ((b.toNat : Int) == 41) = true))
    (hn0 : 0 < n) (hn4 : n ≤ 4) (hlt : r < w.heap.size) (hr : ∀ k, k < n → w.rangeAt r (k * 16) (kcs k).toList) (hk : ∀ k, k < n → IItem (IB d w) w (kcs k) (zs k)) :
    Calls Tryz.prog 12 #[.agg (iN 3 ⟨#[]⟩ ⟨#[]⟩ num ⟨#[b]⟩ l (.slice (some ⟨r, 0, none⟩) n cap) ⟨#[]⟩ 0 false)] w (BuiltP false (lHTML num (catY zs n)) w) := by
  obtain ⟨i0, hi0, hz0, hz1, hz2⟩ := info_parts info_blk
  have HR := hide hr
  have HK := hide hk
  have HBU := hide hbu
  have HSN := hide hsn
  have D1 := hide (fun wx => decode_any b hb wx)
  have L0 : Hid (LsL zs w b.toNat s l (((w.alloc (.cells (iN 3 ⟨#[]⟩ ⟨#[]⟩ num ⟨#[b]⟩ l (.slice (some ⟨r, 0, none⟩) n cap) ⟨#[]⟩ 0 false) 34)).alloc (.cells posV 60)).alloc (.cells #[.int .i64 0, .int .i64 0, .int .i32 b.toNat, .int .i64 s, .bool l, .slice none 0 0] 73)) (.slice none 0 0) []) := hide
    ⟨(below2 w _ _).alloc (by rw [World.size_alloc', World.size_alloc']; omega) _, by rw [World.size_alloc', World.size_alloc', World.size_alloc']; omega, newB3 _ _ _ _, World.ownsRow_nil _ _ _ _, fun k u h => by simp at h⟩
  clear hr hk hbu hsn hb
  go_enter Tryz.func12, Tryz.ntmps12
  go_wp2_with (go_at_call 19; refine (D1.out _).mono ?_; rintro e w1 ⟨rfl, rfl⟩)
  go_loopw [62] (fun kv wr => ∃ (m : Nat) (nv : Value) (vs : List Value), m ≤ n ∧ kv = .int .i64 m ∧ Hid (vs.length = m) ∧ Hid (LsL zs w b.toNat s l wr nv vs)) (fun kv _ => n - (intOf kv).toNat)
  case atStart => exact ⟨0, _, [], by omega, rfl, hide rfl, L0⟩
  case round =>
    obtain ⟨m, nv, vs, hm, rfl, HV, HL⟩ := hrel
    clear L0
    by_cases hl : m < n
    · have hlI : (m : Int) < (n : Int) := by omega
      have hz3 := HL.out.z
      obtain ⟨ks', m', ts, ys, hkc, hm2, hK', hy⟩ := HK.out m hl
      obtain ⟨ao', kn', kc', rfl⟩ := kids_shp hK'
      have hcj : Hid (wr.rangeAt r (m * 16) (iN 4 ⟨#[]⟩ ⟨#[]⟩ 0 ⟨#[]⟩ false (.slice ao' kn' kc') ⟨#[]⟩ 4 false).toList) := hide (fun q v hq => by
        rw [HL.out.B.cell (p := ⟨r, m * 16 + q, none⟩) hlt]; exact HR.out m hl q v (by rw [hkc]; exact hq))
      have HSZ := hide (show (Tryz.prog.info? 34).map (·.size) = some (iN 4 ⟨#[]⟩ ⟨#[]⟩ 0 ⟨#[]⟩ false (.slice ao' kn' kc') ⟨#[]⟩ 4 false).size from info_node)
      have HSZL := hide (show (Tryz.prog.info? 34).map (·.size) = some (iN 4 ⟨#[]⟩ ⟨#[]⟩ 0 ⟨#[]⟩ false (.slice ao' kn' kc') ⟨#[]⟩ 4 false).toList.length from info_node)
      have H1 : Hid ((iN 4 ⟨#[]⟩ ⟨#[]⟩ 0 ⟨#[]⟩ false (.slice ao' kn' kc') ⟨#[]⟩ 4 false).all (·.oneCell') = true) := hide (by simp [Value.oneCell'])
      have hb1 : Below w.heap.size w (wr.alloc (.cells (iN 4 ⟨#[]⟩ ⟨#[]⟩ 0 ⟨#[]⟩ false (.slice ao' kn' kc') ⟨#[]⟩ 4 false) 34)).drew := (HL.out.B.alloc HL.out.B.size _).drew
      have CC := hide (item_any d IH (wr.alloc (.cells (iN 4 ⟨#[]⟩ ⟨#[]⟩ 0 ⟨#[]⟩ false (.slice ao' kn' kc') ⟨#[]⟩ 4 false) 34)).drew _ m' ts ys (hK'.belowB hb1))
      rw [← hy] at CC
      have cells_of : ∀ W : World, Below (wr.heap.size + 1) (wr.alloc (.cells (iN 4 ⟨#[]⟩ ⟨#[]⟩ 0 ⟨#[]⟩ false (.slice ao' kn' kc') ⟨#[]⟩ 4 false) 34)).drew W → (∀ q, W.cell? ⟨wr.heap.size, q, none⟩ = (iN 4 ⟨#[]⟩ ⟨#[]⟩ 0 ⟨#[]⟩ false (.slice ao' kn' kc') ⟨#[]⟩ 4 false)[q]?) ∧ W.cell? ⟨w.heap.size + 1 + 1, 5, none⟩ = some nv ∧ W.frozen? ⟨w.heap.size + 1 + 1, 5, none⟩ = false := fun W hb => by
        have e1 : ObjAt W (w.heap.size + 1 + 1) #[.int .i64 0, .int .i64 0, .int .i32 b.toNat, .int .i64 s, .bool l, nv] 73 := (hb.block _ (by omega)).trans ((Below.heap_alloc wr _ _ (by omega)).trans HL.out.o)
        have e2 : ObjAt W wr.heap.size (iN 4 ⟨#[]⟩ ⟨#[]⟩ 0 ⟨#[]⟩ false (.slice ao' kn' kc') ⟨#[]⟩ 4 false) 34 := (hb.block _ (by omega)).trans (newB1 wr _)
        exact ⟨fun q => e2.cell q, e1.cell 5, obj_free e1 5⟩
      have hXj := HV.out
      have HS0 : (wr.alloc (.cells (iN 4 ⟨#[]⟩ ⟨#[]⟩ 0 ⟨#[]⟩ false (.slice ao' kn' kc') ⟨#[]⟩ 4 false) 34)).drew.heap.size = wr.heap.size + 1 := World.size_alloc' _ _
      have AFT : Hid (∀ (tv gv : Nat) (w3 : World), Held (fun w2 => PrK w2 (.iface tv (ptr gv)) false (zs m)) w3 (wr.alloc (.cells (iN 4 ⟨#[]⟩ ⟨#[]⟩ 0 ⟨#[]⟩ false (.slice ao' kn' kc') ⟨#[]⟩ 4 false) 34)).drew.heap.size w3.heap.size → Below (wr.alloc (.cells (iN 4 ⟨#[]⟩ ⟨#[]⟩ 0 ⟨#[]⟩ false (.slice ao' kn' kc') ⟨#[]⟩ 4 false) 34)).drew.heap.size (wr.alloc (.cells (iN 4 ⟨#[]⟩ ⟨#[]⟩ 0 ⟨#[]⟩ false (.slice ao' kn' kc') ⟨#[]⟩ 4 false) 34)).drew w3 →
          (∀ q, w3.cell? ⟨wr.heap.size, q, none⟩ = (iN 4 ⟨#[]⟩ ⟨#[]⟩ 0 ⟨#[]⟩ false (.slice ao' kn' kc') ⟨#[]⟩ 4 false)[q]?) ∧ (∀ ob q, (w3.alloc ob).cell? ⟨wr.heap.size, q, none⟩ = (iN 4 ⟨#[]⟩ ⟨#[]⟩ 0 ⟨#[]⟩ false (.slice ao' kn' kc') ⟨#[]⟩ 4 false)[q]?) ∧ w3.cell? ⟨w.heap.size + 1 + 1, 5, none⟩ = some nv ∧ (∀ ob, (w3.alloc ob).cell? ⟨w.heap.size + 1 + 1, 5, none⟩ = some nv) ∧ w.heap.size + 3 ≤ w3.heap.size ∧
          (w3.alloc (.cells #[.iface tv (ptr gv)] 46)).ownsRow (w.heap.size + 3) 46 1 nv m vs ∧
            ∀ (g5 cap5 : Nat) (w5 : World), w5.ownsRow (w.heap.size + 3) 46 1 (.slice (some ⟨g5, 0, none⟩) (m + 1) cap5) (m + 1) (vs ++ [.iface tv (ptr gv)]) → (w3.alloc (.cells #[.iface tv (ptr gv)] 46)).grownBy w5 nv.ownBlock → (nv.ownBlock = some g5 ∨ g5 = (w3.alloc (.cells #[.iface tv (ptr gv)] 46)).heap.size) →
              (∀ q, w5.cell? ⟨wr.heap.size, q, none⟩ = (iN 4 ⟨#[]⟩ ⟨#[]⟩ 0 ⟨#[]⟩ false (.slice ao' kn' kc') ⟨#[]⟩ 4 false)[q]?) ∧ (∀ v q, (w5.setCell ⟨w.heap.size + 1 + 1, 5, none⟩ v).cell? ⟨wr.heap.size, q, none⟩ = (iN 4 ⟨#[]⟩ ⟨#[]⟩ 0 ⟨#[]⟩ false (.slice ao' kn' kc') ⟨#[]⟩ 4 false)[q]?) ∧ w5.cell? ⟨w.heap.size + 1 + 1, 5, none⟩ = some nv ∧ w5.frozen? ⟨w.heap.size + 1 + 1, 5, none⟩ = false ∧
              LsL zs w b.toNat s l (w5.setCell ⟨w.heap.size + 1 + 1, 5, none⟩ (.slice (some ⟨g5, 0, none⟩) (m + 1) cap5)) (.slice (some ⟨g5, 0, none⟩) (m + 1) cap5) (vs ++ [.iface tv (ptr gv)])) := hide (fun tv gv w3 hH3 hb3 => by
        rw [HS0] at hH3 hb3
        have hsz3 := hb3.size
        rw [HS0] at hsz3
        have hw4 : ∀ ob, Below (wr.heap.size + 1) (wr.alloc (.cells (iN 4 ⟨#[]⟩ ⟨#[]⟩ 0 ⟨#[]⟩ false (.slice ao' kn' kc') ⟨#[]⟩ 4 false) 34)).drew (w3.alloc ob) := fun ob => hb3.alloc hsz3 ob
        have q3 := cells_of w3 hb3
        have hs4 : (w3.alloc (.cells #[.iface tv (ptr gv)] 46)).heap.size = w3.heap.size + 1 := World.size_alloc' _ _
        have hbw : Below wr.heap.size wr w3 := ((below1 wr _).drew).trans (hb3.mono (by omega))
        have own3 : w3.ownsRow (w.heap.size + 3) 46 1 nv m vs := by
          have := own_below HL.out.own hbw (fun g e => (HL.out.own.lt g e).2)
          rwa [hXj] at this
        have own_lt : ∀ q, nv.ownBlock = some q → w.heap.size + 3 ≤ q ∧ q < wr.heap.size := fun q hq => HL.out.own.lt q hq
        refine ⟨q3.1, fun ob => (cells_of _ (hw4 ob)).1, q3.2.1, fun ob => (cells_of _ (hw4 ob)).2.1, by omega, own3.alloc _, fun g5 cap5 w5 hown5 hg5 hat5 => ?_⟩
        have hne : ∀ q, (q < w.heap.size + 3 ∨ q = wr.heap.size) → some q ≠ nv.ownBlock := fun q hq e => by have := own_lt q e.symm; omega
        have q4 := cells_of _ (hw4 (.cells #[.iface tv (ptr gv)] 46))
        have far : ∀ (q i : Nat), (q < w.heap.size + 3 ∨ q = wr.heap.size) → w5.cell? ⟨q, i, none⟩ = (w3.alloc (.cells #[.iface tv (ptr gv)] 46)).cell? ⟨q, i, none⟩ := fun q i hq => hg5.cell_far ⟨q, i, none⟩ (by show q < _; omega) (hne q hq)
        have farS : ∀ (q i : Nat) (v : Value), (q < w.heap.size + 3 ∨ q = wr.heap.size) → q ≠ w.heap.size + 1 + 1 → (w5.setCell ⟨w.heap.size + 1 + 1, 5, none⟩ v).cell? ⟨q, i, none⟩ = (w3.alloc (.cells #[.iface tv (ptr gv)] 46)).cell? ⟨q, i, none⟩ := fun q i v hq h2 =>
          ((grown_setCell w5 (w.heap.size + 1 + 1) 5 v).cell_far ⟨q, i, none⟩ (by show q < _; have := hg5.size; omega) (fun e => h2 (Option.some.inj e))).trans (far q i hq)
        refine ⟨fun q => (far _ q (.inr rfl)).trans (q4.1 q), fun v q => (farS _ q v (.inr rfl) (by omega)).trans (q4.1 q), (far _ 5 (.inl (by omega))).trans q4.2.1, ?_, ?_⟩
        · exact (hg5.frozen_far ⟨w.heap.size + 1 + 1, 5, none⟩ (by show w.heap.size + 1 + 1 < _; omega) (hne (w.heap.size + 1 + 1) (.inl (by omega)))).trans q4.2.2
        · have := LsL.snoc (kid := (iN 4 ⟨#[]⟩ ⟨#[]⟩ 0 ⟨#[]⟩ false (.slice ao' kn' kc') ⟨#[]⟩ 4 false)) (g := g5) (cap := cap5) HL.out (w1 := w3) (w2 := w5) (v := .iface tv (ptr gv)) (by rw [World.size_alloc']; exact below_undrew hb3) (by rw [hXj, World.size_alloc']; exact hH3) (by rw [hXj]; exact hown5) hg5 hat5
          rw [hXj] at this
          exact this)
      have c70 := (cells_of _ (Below.refl _ _)).2.1
      have K0 := (cells_of _ (Below.refl _ _)).1
      clear cells_of hXj hy hkc hK' hb1 HS0
      go_upto_region 13 with (first | ((with_reducible refine wpList_load_mid ?_ 34 (.tmp 64) ?_ r (m * 16) ?_ (iN 4 ⟨#[]⟩ ⟨#[]⟩ 0 ⟨#[]⟩ false (.slice ao' kn' kc') ⟨#[]⟩ 4 false).toList _ hcj.out Tryz.underlying34 ?_ HSZL.out ?_); exact rfl; exact rfl; (simp [go_sem]); exact rfl) | ((with_reducible refine wpList_store_new ?_ 34 (.tmp 6) (.tmp 65) ?_ wr _ (iN 4 ⟨#[]⟩ ⟨#[]⟩ 0 ⟨#[]⟩ false (.slice ao' kn' kc') ⟨#[]⟩ 4 false) ?_ ?_ HSZ.out ?_ H1.out ?_); exact rfl; exact rfl; (simp [go_sem]); (simp [go_sem]); rfl))
      go_region_law (first | (obtain ⟨hle3, k1, hcl⟩ := AF.out.2.2.2.2; refine step_append_lies _ rfl (.tmp 70) (.tmp 73) 62 rfl (w.heap.size + 3) 46 i0 .nilIface 1 16 Tryz.underlying62 hi0 hz0 hz1 hz2 rfl (by decide) _ m vs rfl k1 ⟨w3.heap.size, 0, none⟩ 1 1 [.iface tv (ptr gv)] rfl rfl (cellOne w3 _ _) (by simp [Value.oneCell']) (by omega) (by unfold maxLen; omega) (by omega) (by rw [World.size_alloc']; omega) _ rfl ?_; intro g5 cap5 w5 hown5 hg5 hat5 hlt5; have D5 := hide (hcl g5 cap5 w5 hown5 hg5 hat5); have K5 := D5.out.1; have K6 := D5.out.2.1; have c75 := D5.out.2.2.1; have f75 := D5.out.2.2.2.1; clear hown5 hg5 hat5 hlt5 k1 hcl) | (go_simp; (go_at_call 20; (with_reducible refine CC.out.mono ?_); rintro e w3 ⟨tv, gv, rfl, hH3, hb3⟩; have AF0 := AFT.out tv gv w3 hH3 hb3; clear hH3 hb3; have AF := hide AF0; have K1 := AF.out.1; have K2 := AF.out.2.1; have c73 := AF.out.2.2.1; have c74 := AF.out.2.2.2.1; clear AF0)))
      all_goals
        go_wp2
        go_roundw
        case rel => exact ⟨m + 1, _, vs ++ [.iface tv (ptr gv)], by omega, by go_num, hide (by rw [List.length_append, HV.out]; rfl), hide D5.out.2.2.2.2⟩
        case measure => simp [intOf]; omega
    · obtain rfl : m = n := by omega
      have hlI : ¬ ((m : Int) < (m : Int)) := by omega
      have hD := hide (HL.out.done hn0 HV.out)
      have hB := hide HL.out.B
      clear hl
      go_wp2
      go_ret
      refine ⟨71, w.heap.size + 2, rfl, hD.out.mono fun w2 h => ⟨_, _, _, rfl, disp_List, fun h => absurd h (by decide), fun _ => ⟨by decide, listH_end num _⟩, ?_⟩, hB.out⟩
      have hp := list_prints w2 (w.heap.size + 2) 0 0 b.toNat s l (decide (num < 0)) nv m (fun k => vs.getD k .nilIface) zs hs30 HBU.out h.1 h.2.1 h.2.2
      rw [list_html, ← HSN.out]
      exact hp
end Go.Proofs.YtipniinmajoolaaGreatDoor
