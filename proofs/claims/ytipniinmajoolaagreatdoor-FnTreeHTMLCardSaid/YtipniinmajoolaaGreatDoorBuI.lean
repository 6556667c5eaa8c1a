/- Nodes of blocks turned into the package's blocks: impl.built at lists: what its loop keeps. Conditions: as each states them. -/
import Derived.Test.YtipniinmajoolaaGreatDoorBuB4
import Derived.Test.YtipniinmajoolaaGreatDoorBuE
import Derived.Deep.RegionHeld3
namespace Go.Proofs.YtipniinmajoolaaGreatDoor
open Go.RowKit
theorem zzItem_any (ao : Option Addr) (kn kc : Nat) (wd : Int) (w : World) : Calls Tryz.prog 40 #[.agg posV, .slice ao kn kc, .int .i64 wd] w fun e w' => e = .returned (.iface 137 (ptr (w.heap.size + 1))) ∧ (w.alloc (.cells posV 60)).alloc (.cells #[.int .i64 0, .int .i64 0, .slice ao kn kc, .int .i64 wd] 139) = w' := by
  go_enter Tryz.func40, Tryz.ntmps40
  go_wp2
  go_ret
  exact ⟨rfl, rfl⟩
/-- Two new blocks, beside what holds of the blocks from lo on. -/
theorem held_box2 {K : World → Prop} {w w1 : World} {lo : Nat} (h : Held K w1 lo w1.heap.size) (hlo : w.heap.size ≤ lo) (o : Obj) (cs : Array Value) (T : TypeId) (hw : w.heap.size ≤ w1.heap.size) :
    Held (fun w2 => ObjAt w2 (w1.heap.size + 1) cs T ∧ K w2) ((w1.alloc o).alloc (.cells cs T)) w.heap.size ((w1.alloc o).alloc (.cells cs T)).heap.size := by
  have h2 : Held K (w1.alloc o) lo (w1.alloc o).heap.size := (h.on (w2 := w1.alloc o) (fun j _ b => Below.heap_alloc _ _ _ b)).wide (Nat.le_refl _) (by rw [World.size_alloc']; omega)
  have h3 := held_box (w := w) h2 hlo cs T (by rw [World.size_alloc']; omega)
  rw [World.size_alloc' w1] at h3
  exact h3
theorem item_end (ts : Nat → Bool) (ys : Nat → ByteArray) (m : Nat) : EndLf (itHTML ts ys m) := by
  unfold itHTML
  exact EndLf.app _ ⟨by decide, by decide⟩
set_option maxHeartbeats 2000000 in
set_option maxRecDepth 100000 in
theorem item_any (d : Nat) (IH : BuiltD d) (w : World) (ks : Value) (m : Nat) (ts : Nat → Bool) (ys : Nat → ByteArray) (hK : KidsI 16 (IB d w) w ks m ts ys) :
    Calls Tryz.prog 20 #[.agg (iN 4 ⟨#[]⟩ ⟨#[]⟩ 0 ⟨#[]⟩ false ks ⟨#[]⟩ 4 false)] w (BuiltP false (itHTML ts ys m) w) := by
  obtain ⟨ao, kn, kc, rfl⟩ := kids_shp hK
  have h0 := hK.1
  have LK := hide (list_kids IH (w.alloc (.cells (iN 4 ⟨#[]⟩ ⟨#[]⟩ 0 ⟨#[]⟩ false (.slice ao kn kc) ⟨#[]⟩ 4 false) 34)).drew _ m ts ys (hK.belowB (below1 w _).drew))
  clear hK
  have KO : ∀ (W : World), Below (w.heap.size + 1) (w.alloc (.cells (iN 4 ⟨#[]⟩ ⟨#[]⟩ 0 ⟨#[]⟩ false (.slice ao kn kc) ⟨#[]⟩ 4 false) 34)) W → ∀ j, W.cell? ⟨w.heap.size, j, none⟩ = (iN 4 ⟨#[]⟩ ⟨#[]⟩ 0 ⟨#[]⟩ false (.slice ao kn kc) ⟨#[]⟩ 4 false)[j]? := fun W hb j => by
    have e1 : ObjAt W w.heap.size (iN 4 ⟨#[]⟩ ⟨#[]⟩ 0 ⟨#[]⟩ false (.slice ao kn kc) ⟨#[]⟩ 4 false) 34 := (hb.block _ (by omega)).trans (newB1 _ _)
    exact e1.cell j
  have K0 : ∀ j, (w.alloc (.cells (iN 4 ⟨#[]⟩ ⟨#[]⟩ 0 ⟨#[]⟩ false (.slice ao kn kc) ⟨#[]⟩ 4 false) 34)).drew.cell? ⟨w.heap.size, j, none⟩ = (iN 4 ⟨#[]⟩ ⟨#[]⟩ 0 ⟨#[]⟩ false (.slice ao kn kc) ⟨#[]⟩ 4 false)[j]? := KO _ (Below.refl _ _).drew
  have HKO := hide KO
  clear KO
  go_enter Tryz.func20, Tryz.ntmps20
  go_wp2
  go_region_held3 (fun w' => ∀ j, w'.cell? ⟨w.heap.size, j, none⟩ = (iN 4 ⟨#[]⟩ ⟨#[]⟩ 0 ⟨#[]⟩ false (.slice ao kn kc) ⟨#[]⟩ 4 false)[j]?) (first | exact K0 | exact K1 | exact K3 _ _) (first | (go_at_call 17; (with_reducible refine LK.out.mono ?_); rintro e w1 ⟨g1, cap1, vs, rfl, hH, hb1⟩; have HH := hide hH; have HB := hide hb1; have hb2 : Below (w.heap.size + 1) (w.alloc (.cells (iN 4 ⟨#[]⟩ ⟨#[]⟩ 0 ⟨#[]⟩ false (.slice ao kn kc) ⟨#[]⟩ 4 false) 34)) w1 := (Below.refl _ _).drew.trans ((show Below (w.alloc (.cells (iN 4 ⟨#[]⟩ ⟨#[]⟩ 0 ⟨#[]⟩ false (.slice ao kn kc) ⟨#[]⟩ 4 false) 34)).drew.heap.size _ _ from hb1).mono (Nat.le_of_eq (World.size_alloc' w _).symm)); have hz2 : w.heap.size + 1 ≤ w1.heap.size := Nat.le_trans (Nat.le_of_eq (World.size_alloc' w _).symm) hb2.size; have HB2 := hide hb2; have K1 := HKO.out _ hb2; have K3 := fun o o' => HKO.out _ ((hb2.alloc hz2 o).alloc (by rw [World.size_alloc']; omega) o'); clear hH hb1 hb2) | (go_at_call 40; (with_reducible refine (zzItem_any _ _ _ _ _).mono ?_); rintro e w3 ⟨rfl, rfl⟩))
  all_goals
    go_wp2
    go_ret
    have hs0 : (w.alloc (.cells (iN 4 ⟨#[]⟩ ⟨#[]⟩ 0 ⟨#[]⟩ false (.slice ao kn kc) ⟨#[]⟩ 4 false) 34)).drew.heap.size = w.heap.size + 1 := World.size_alloc' _ _
    refine ⟨137, w1.heap.size + 1, rfl, (held_box2 (w := w) (w1 := w1) (HH.out.wide (Nat.le_refl _) (Nat.le_refl _)) (by rw [hs0]; omega) (.cells posV 60) #[.int .i64 0, .int .i64 0, .slice (some ⟨g1, 0, none⟩) m cap1, .int .i64 4] 139 (by omega)).mono fun w2 hh => ⟨_, _, _, rfl, disp_Item, fun h => absurd h (by decide), fun _ => ⟨by decide, item_end ts ys m⟩, item_prints w2 _ 0 0 4 _ m vs ts ys h0 hh.1 hh.2.1 hh.2.2⟩, ?_⟩
    have h1 : Below w.heap.size w w1 := (below1 w _).trans (HB2.out.mono (by omega))
    exact (h1.alloc h1.size _).alloc (by rw [World.size_alloc']; have := h1.size; omega) _
end Go.Proofs.YtipniinmajoolaaGreatDoor
namespace Go.Proofs.YtipniinmajoolaaGreatDoor
open Go.RowKit
/-- The list under way. -/
structure LsL (ys : Nat → ByteArray) (w : World) (bu s : Int) (lo : Bool) (wr : World) (nv : Value) (vs : List Value) : Prop where
  B : Below w.heap.size w wr
  z : w.heap.size + 3 ≤ wr.heap.size
  o : ObjAt wr (w.heap.size + 2) #[.int .i64 0, .int .i64 0, .int .i32 bu, .int .i64 s, .bool lo, nv] 73
  own : wr.ownsRow (w.heap.size + 3) 46 1 nv vs.length vs
  V : Entries (fun k v w2 => PrK w2 v false (ys k)) (w.heap.size + 3) nv vs wr
theorem Entries.same {I : Nat → Value → World → Prop} {B : Nat} {ov : Value} {vs : List Value} {w w' : World} (h : Entries I B ov vs w) (hz : w.heap.size ≤ w'.heap.size) (hk : ∀ j, B ≤ j → j < w.heap.size → w'.heap[j]? = w.heap[j]?) : Entries I B ov vs w' := fun k u hu => by
  obtain ⟨lo, hi, h1, h2, h3, h4⟩ := h k u hu
  exact ⟨lo, hi, h1.on fun j a b => hk j (by omega) (by omega), h2, by omega, h4⟩
/-- An item is appended; the row is stored. -/
theorem LsL.snoc {ys : Nat → ByteArray} {w : World} {bu s : Int} {lo : Bool} {wr w1 w2 : World} {nv v : Value} {vs : List Value} {kid : Array Value} {g cap : Nat} (h : LsL ys w bu s lo wr nv vs)
    (hb1 : Below (wr.alloc (.cells kid 34)).heap.size (wr.alloc (.cells kid 34)) w1) (hQ : Held (fun w2 => PrK w2 v false (ys vs.length)) w1 (wr.alloc (.cells kid 34)).heap.size w1.heap.size)
    (hown : w2.ownsRow (w.heap.size + 3) 46 1 (.slice (some ⟨g, 0, none⟩) (vs.length + 1) cap) (vs.length + 1) (vs ++ [v])) (hg : (w1.alloc (.cells #[v] 46)).grownBy w2 nv.ownBlock) (hat : nv.ownBlock = some g ∨ g = (w1.alloc (.cells #[v] 46)).heap.size) :
    LsL ys w bu s lo (w2.setCell ⟨w.heap.size + 2, 5, none⟩ (.slice (some ⟨g, 0, none⟩) (vs.length + 1) cap)) (.slice (some ⟨g, 0, none⟩) (vs.length + 1) cap) (vs ++ [v]) := by
  have hz := h.z
  have hE := entries_step (n := vs.length + 1) (cap := cap) h.V (by omega) (fun g hg => (h.own.lt g hg).2) hb1 hQ hg hat
  have hz1 := hb1.size
  rw [World.size_alloc'] at hz1
  have hz2 := hg.size
  rw [World.size_alloc'] at hz2
  have hno : ∀ j, j < w.heap.size + 3 → some j ≠ nv.ownBlock := fun j hj e => by have := (h.own.lt j e.symm).1; omega
  have hbw1 : Below wr.heap.size wr w1 := (below1 wr _).trans (hb1.mono (by rw [World.size_alloc']; omega))
  have hB1 : Below w.heap.size w w1 := h.B.trans (hbw1.mono h.B.size)
  have hB2 : Below w.heap.size w w2 := (hB1.alloc hB1.size _).grown hg (by rw [World.size_alloc']; omega) (fun k hk => by have := (h.own.lt k hk).1; omega)
  have hsz : (w2.setCell ⟨w.heap.size + 2, 5, none⟩ (.slice (some ⟨g, 0, none⟩) (vs.length + 1) cap)).heap.size = w2.heap.size := by simp [World.setCell]
  have hgc := grown_setCell w2 (w.heap.size + 2) 5 (.slice (some ⟨g, 0, none⟩) (vs.length + 1) cap)
  have ho2 : ObjAt w2 (w.heap.size + 2) #[.int .i64 0, .int .i64 0, .int .i32 bu, .int .i64 s, .bool lo, nv] 73 :=
    (hg.block _ (by rw [World.size_alloc']; omega) (hno _ (by omega))).trans ((Below.heap_alloc _ _ _ (by omega)).trans ((hbw1.block _ (by omega)).trans h.o))
  refine ⟨hB2.setCell (p := ⟨w.heap.size + 2, 5, none⟩) (by show w.heap.size ≤ w.heap.size + 2; omega) _, by omega, ?_, ?_, ?_⟩
  · exact heap_setCell_same w2 (w.heap.size + 2) 5 _ _ _ ho2
  · rw [List.length_append]
    exact own_move hown (fun g' e => hgc.block g' (hown.lt g' e).2 (fun e2 => by have := (hown.lt g' e).1; have := Option.some.inj e2; omega)) (Nat.le_refl _)
  · exact hE.same (Nat.le_of_eq hsz.symm) (fun j a b => hgc.block j b (fun e2 => by have := Option.some.inj e2; omega))
/-- The list, once all items are in it. -/
theorem LsL.done {ys : Nat → ByteArray} {w : World} {bu s : Int} {lo : Bool} {wr : World} {nv : Value} {vs : List Value} {n : Nat} (h : LsL ys w bu s lo wr nv vs) (hn : 0 < n) (hv : vs.length = n) :
    Held (fun w2 => ObjAt w2 (w.heap.size + 2) #[.int .i64 0, .int .i64 0, .int .i32 bu, .int .i64 s, .bool lo, nv] 73 ∧ RowIs 46 w2 nv n (fun k => vs.getD k .nilIface) ∧ ∀ k, k < n → PrK w2 (vs.getD k .nilIface) false (ys k)) wr w.heap.size wr.heap.size := by
  have hz := h.z
  have hown := h.own
  rcases hown.2 with ⟨_, h0⟩ | ⟨g, cap, cur, hvv, hbg, hg, hnc, hcm, hcs, htake⟩
  · omega
  · have hlt : g < wr.heap.size := (Array.getElem?_eq_some_iff.1 hg).1
    rw [hv] at hnc htake hvv
    intro w2 hw
    refine ⟨(hw _ (by omega) (by omega)).trans h.o, ⟨some ⟨g, 0, none⟩, cap, hvv, by unfold maxLen at hcm; omega, fun _ => ⟨g, rfl, cur, ?_, fun k hk => ?_⟩⟩, fun k hk => ?_⟩
    · show w2.heap[g]? = _
      rw [hw g (by omega) hlt]; exact hg
    · have h1 : vs[k]? = some (vs.getD k .nilIface) := by rw [List.getD_eq_getElem?_getD, List.getElem?_eq_getElem (by omega), Option.getD_some]
      have h2 : cur[k]? = vs[k]? := by rw [← htake, Nat.mul_one, List.getElem?_take_of_lt hk, Array.getElem?_toList]
      exact h2.trans h1
    · have h1 : vs[k]? = some (vs.getD k .nilIface) := by rw [List.getD_eq_getElem?_getD, List.getElem?_eq_getElem (by omega), Option.getD_some]
      obtain ⟨a, b, q1, q2, q3, _⟩ := h.V k _ h1
      exact (q1.wide (by omega) q3) w2 hw
theorem below_undrew {B : Nat} {a b : World} (h : Below B a.drew b) : Below B a b := ⟨h.os, h.tape, h.output, h.size, h.block⟩
theorem listH_end (num : Int) (z : ByteArray) : EndLf (lHTML num z) := by
  unfold lHTML
  split
  · exact EndLf.app _ ⟨by decide, by decide⟩
  · exact EndLf.app _ ⟨by decide, by decide⟩
theorem decode_any (b : UInt8) (hb : b.toNat < 128) (w : World) : Calls Tryz.prog 19 #[.string ⟨#[b]⟩] w fun e w' => e = .returned (.tuple #[.int .i32 b.toNat, .int .i64 1]) ∧ w = w' :=
  (Tryz.utf8_DecodeRuneInString_ascii ⟨#[b]⟩ b w rfl hb).mono fun _ _ h => ⟨h.1, h.2.symm⟩
end Go.Proofs.YtipniinmajoolaaGreatDoor
