/- Nodes turned into inlines: plain texts, code spans, emphasis and links with two of them within. Conditions: texts of at most 1000 bytes. -/
import Derived.Test.YtecccieeikmfeaaWords3
namespace Go.Proofs.Ytecccieeikmfeaa
open Go.RowKit
abbrev nodeCs (k : Int) (t : ByteArray) : Array Value := #[.int .i64 k, .string t, .string ⟨#[]⟩, .int .i64 0, .string ⟨#[]⟩, .bool false, .slice none 0 0, .slice none 0 0, .int .i64 0, .int .i64 0, .string ⟨#[]⟩, .int .i64 0, .bool false, .bool false, .bool false, .slice none 0 0]
abbrev nodeKs (k : Int) (r : Nat) : Array Value := #[.int .i64 k, .string ⟨#[]⟩, .string ⟨#[]⟩, .int .i64 0, .string ⟨#[]⟩, .bool false, .slice none 0 0, .slice (some ⟨r, 0, none⟩) 2 2, .int .i64 0, .int .i64 0, .string ⟨#[42]⟩, .int .i64 0, .bool false, .bool false, .bool false, .slice none 0 0]
theorem PutP.mono {I J : Value → World → Prop} {w w' : World} {e : Ending} (h : PutP I w e w') (hij : ∀ v w2, I v w2 → J v w2) : PutP J w e w' := by
  obtain ⟨T, g, h1, h2, h3⟩ := h
  exact ⟨T, g, h1, fun w2 hw => hij _ _ (h2 w2 hw), h3⟩
theorem new_at (w w2 : World) (A B : Obj) (hw : w2.heap[w.heap.size + 1]? = ((w.alloc A).alloc B).heap[w.heap.size + 1]?) : w2.heap[w.heap.size + 1]? = some B := by
  rw [hw]
  have h := heap_alloc_new (w.alloc A) B
  rw [World.size_alloc'] at h
  exact h
set_option maxHeartbeats 1000000 in
set_option maxRecDepth 100000 in
theorem put_plain (x : ByteArray) (w : World) (hx : x.size ≤ 1000) : Calls Try.prog 11 #[.agg (nodeCs 20 x)] w (PutP (fun v w2 => LeafP w2 v (escF x x.size)) w) := by
  go_enter Try.func11, Try.ntmps11
  go_wp2_with (go_at_call 9; refine (written_nil _).mono ?_; rintro e w' ⟨rfl, rfl⟩)
  go_ret
  refine ⟨83, w.heap.size + 1, rfl, fun w2 hw => ⟨w.heap.size + 1, x, hx, rfl, .inl ⟨rfl, ?_⟩⟩, (((Below.refl _ _).alloc (Nat.le_refl _) _).alloc (by simp) _)⟩
  exact new_at w w2 _ _ (hw _ (by omega) (by simp))
set_option maxHeartbeats 1000000 in
set_option maxRecDepth 100000 in
theorem put_span (x : ByteArray) (w : World) (hx : x.size ≤ 1000) : Calls Try.prog 11 #[.agg (nodeCs 23 x)] w (PutP (fun v w2 => LeafP w2 v (escF x x.size)) w) := by
  go_enter Try.func11, Try.ntmps11
  go_wp2_with (go_at_call 9; refine (written_nil _).mono ?_; rintro e w' ⟨rfl, rfl⟩)
  go_ret
  refine ⟨52, w.heap.size + 1, rfl, fun w2 hw => ⟨w.heap.size + 1, x, hx, rfl, .inr ⟨rfl, ?_⟩⟩, (((Below.refl _ _).alloc (Nat.le_refl _) _).alloc (by simp) _)⟩
  exact new_at w w2 _ _ (hw _ (by omega) (by simp))
def inN (b c : ByteArray) : Nat → Array Value | 0 => nodeCs 20 b | _ => nodeCs 23 c
def inY (b c : ByteArray) : Nat → ByteArray | 0 => escF b b.size | _ => escF c c.size
theorem written_in (r : Nat) (b c : ByteArray) (w : World) (hb : b.size ≤ 1000) (hc : c.size ≤ 1000) (hr : ∀ k, k < 2 → w.rangeAt r (k * 16) (inN b c k).toList) (hlt : r < w.heap.size) :
    Calls Try.prog 9 #[.slice (some ⟨r, 0, none⟩) 2 2] w (WrittenP (fun k v w2 => LeafP w2 v (inY b c k)) 2 w) :=
  written_of r 2 2 (inN b c) _ w (by omega) (by omega) hr hlt (fun k hk => by
    match k, hk with
    | 0, _ => exact ⟨rfl, by simp [inN, Value.oneCell']⟩
    | 1, _ => exact ⟨rfl, by simp [inN, Value.oneCell']⟩) (fun k hk W _ => by
    match k, hk with
    | 0, _ => exact put_plain b W hb
    | 1, _ => exact put_span c W hc)
set_option maxHeartbeats 2000000 in
set_option maxRecDepth 100000 in
theorem put_emph (r : Nat) (b c : ByteArray) (w : World) (hb : b.size ≤ 1000) (hc : c.size ≤ 1000) (hr : ∀ k, k < 2 → w.rangeAt r (k * 16) (inN b c k).toList) (hlt : r < w.heap.size) :
    Calls Try.prog 11 #[.agg (nodeKs 24 r)] w (PutP (fun v w2 => NodeP w2 v (catY (inY b c) 2)) w) := by
  have C := hide (written_in r b c (w.alloc (.cells (nodeKs 24 r) 27)) hb hc (fun k hk => World.rangeAt_alloc (hr k hk) _) (by simp; omega))
  have hob : ObjAt (w.alloc (.cells (nodeKs 24 r) 27)) w.heap.size (nodeKs 24 r) 27 := heap_alloc_new w _
  have HOB := hide hob
  clear hr hob
  go_enter Try.func11, Try.ntmps11
  go_wp2_with (go_at_call 9; refine C.out.mono ?_; rintro e w1 ⟨g, cap, vs, rfl, hnc, hcap, hH, hb1⟩; refine Hid.out ?_)
  refine Lib.hid ?_
  have ho1 := HOB.out.below hb1 (by simp)
  have k0 : w1.cell? ⟨w.heap.size, 0, none⟩ = some (.int .i64 24) := (ho1.cell 0).trans rfl
  have k1 : w1.cell? ⟨w.heap.size, 1, none⟩ = some (.string ⟨#[]⟩) := (ho1.cell 1).trans rfl
  have k2 : w1.cell? ⟨w.heap.size, 2, none⟩ = some (.string ⟨#[]⟩) := (ho1.cell 2).trans rfl
  have k10 : w1.cell? ⟨w.heap.size, 10, none⟩ = some (.string ⟨#[42]⟩) := (ho1.cell 10).trans rfl
  have k14 : w1.cell? ⟨w.heap.size, 14, none⟩ = some (.bool false) := (ho1.cell 14).trans rfl
  have hq := hb1.size
  rw [World.size_alloc'] at hq
  have HH := hide hH
  clear ho1 hH
  go_wp2
  go_ret
  refine ⟨55, w1.heap.size, rfl, fun w2 hw => ?_, ?_⟩
  · obtain ⟨q1, q2⟩ := HH.out w2 (fun j a c => by rw [hw j (by rw [World.size_alloc'] at a; omega) (by show j < (w1.alloc _).heap.size; rw [World.size_alloc']; omega)]; exact Below.heap_alloc _ _ _ c)
    refine ⟨w1.heap.size, g, 2, cap, vs, inY b c, by omega, hnc, hcap, rfl, q1, q2, ?_⟩
    have hn : w2.heap[w1.heap.size]? = _ := (hw w1.heap.size (by omega) (by show w1.heap.size < (w1.alloc _).heap.size; rw [World.size_alloc']; omega)).trans (heap_alloc_new w1 _)
    exact .inl ⟨rfl, _, hn⟩
  · exact (((Below.refl _ _).alloc (Nat.le_refl _) _).trans (hb1.mono (by simp))).alloc (by omega) _
set_option maxHeartbeats 2000000 in
set_option maxRecDepth 100000 in
theorem put_strong (r : Nat) (b c : ByteArray) (w : World) (hb : b.size ≤ 1000) (hc : c.size ≤ 1000) (hr : ∀ k, k < 2 → w.rangeAt r (k * 16) (inN b c k).toList) (hlt : r < w.heap.size) :
    Calls Try.prog 11 #[.agg (nodeKs 25 r)] w (PutP (fun v w2 => NodeP w2 v (catY (inY b c) 2)) w) := by
  have C := hide (written_in r b c (w.alloc (.cells (nodeKs 25 r) 27)) hb hc (fun k hk => World.rangeAt_alloc (hr k hk) _) (by simp; omega))
  have hob : ObjAt (w.alloc (.cells (nodeKs 25 r) 27)) w.heap.size (nodeKs 25 r) 27 := heap_alloc_new w _
  have HOB := hide hob
  clear hr hob
  go_enter Try.func11, Try.ntmps11
  go_wp2_with (go_at_call 9; refine C.out.mono ?_; rintro e w1 ⟨g, cap, vs, rfl, hnc, hcap, hH, hb1⟩; refine Hid.out ?_)
  refine Lib.hid ?_
  have ho1 := HOB.out.below hb1 (by simp)
  have k0 : w1.cell? ⟨w.heap.size, 0, none⟩ = some (.int .i64 25) := (ho1.cell 0).trans rfl
  have k1 : w1.cell? ⟨w.heap.size, 1, none⟩ = some (.string ⟨#[]⟩) := (ho1.cell 1).trans rfl
  have k2 : w1.cell? ⟨w.heap.size, 2, none⟩ = some (.string ⟨#[]⟩) := (ho1.cell 2).trans rfl
  have k10 : w1.cell? ⟨w.heap.size, 10, none⟩ = some (.string ⟨#[42]⟩) := (ho1.cell 10).trans rfl
  have k14 : w1.cell? ⟨w.heap.size, 14, none⟩ = some (.bool false) := (ho1.cell 14).trans rfl
  have hq := hb1.size
  rw [World.size_alloc'] at hq
  have HH := hide hH
  clear ho1 hH
  go_wp2
  go_ret
  refine ⟨58, w1.heap.size, rfl, fun w2 hw => ?_, ?_⟩
  · obtain ⟨q1, q2⟩ := HH.out w2 (fun j a c => by rw [hw j (by rw [World.size_alloc'] at a; omega) (by show j < (w1.alloc _).heap.size; rw [World.size_alloc']; omega)]; exact Below.heap_alloc _ _ _ c)
    refine ⟨w1.heap.size, g, 2, cap, vs, inY b c, by omega, hnc, hcap, rfl, q1, q2, ?_⟩
    have hn : w2.heap[w1.heap.size]? = _ := (hw w1.heap.size (by omega) (by show w1.heap.size < (w1.alloc _).heap.size; rw [World.size_alloc']; omega)).trans (heap_alloc_new w1 _)
    exact .inr (.inl ⟨rfl, _, hn⟩)
  · exact (((Below.refl _ _).alloc (Nat.le_refl _) _).trans (hb1.mono (by simp))).alloc (by omega) _
theorem first_star (w : World) : Calls Try.prog 12 #[.string ⟨#[42]⟩] w fun e w' => e = .returned (.int .u8 42) ∧ w = w' := by
  go_enter Try.func12, Try.ntmps12
  go_wp2
  go_ret
  exact ⟨rfl, rfl⟩
set_option maxHeartbeats 2000000 in
set_option maxRecDepth 100000 in
theorem put_link (r : Nat) (b c : ByteArray) (w : World) (hb : b.size ≤ 1000) (hc : c.size ≤ 1000) (hr : ∀ k, k < 2 → w.rangeAt r (k * 16) (inN b c k).toList) (hlt : r < w.heap.size) :
    Calls Try.prog 11 #[.agg (nodeKs 27 r)] w (PutP (fun v w2 => NodeP w2 v (catY (inY b c) 2)) w) := by
  have C := hide (written_in r b c (w.alloc (.cells (nodeKs 27 r) 27)) hb hc (fun k hk => World.rangeAt_alloc (hr k hk) _) (by simp; omega))
  have hob : ObjAt (w.alloc (.cells (nodeKs 27 r) 27)) w.heap.size (nodeKs 27 r) 27 := heap_alloc_new w _
  have HOB := hide hob
  clear hr hob
  go_enter Try.func11, Try.ntmps11
  go_wp2_with (go_at_call 9; refine C.out.mono ?_; rintro e w1 ⟨g, cap, vs, rfl, hnc, hcap, hH, hb1⟩; refine Hid.out ?_)
  refine Lib.hid ?_
  have ho1 := HOB.out.below hb1 (by simp)
  have k0 : w1.cell? ⟨w.heap.size, 0, none⟩ = some (.int .i64 27) := (ho1.cell 0).trans rfl
  have k1 : w1.cell? ⟨w.heap.size, 1, none⟩ = some (.string ⟨#[]⟩) := (ho1.cell 1).trans rfl
  have k2 : w1.cell? ⟨w.heap.size, 2, none⟩ = some (.string ⟨#[]⟩) := (ho1.cell 2).trans rfl
  have k10 : w1.cell? ⟨w.heap.size, 10, none⟩ = some (.string ⟨#[42]⟩) := (ho1.cell 10).trans rfl
  have k14 : w1.cell? ⟨w.heap.size, 14, none⟩ = some (.bool false) := (ho1.cell 14).trans rfl
  have hq := hb1.size
  rw [World.size_alloc'] at hq
  have HH := hide hH
  clear ho1 hH
  go_wp2
  go_region_with (go_at_call 12; refine (first_star _).mono ?_; rintro e w' ⟨rfl, rfl⟩)
  all_goals
    go_wp2
    go_ret
    refine ⟨65, w1.heap.size, rfl, fun w2 hw => ?_, ?_⟩
    · obtain ⟨q1, q2⟩ := HH.out w2 (fun j a c => by rw [hw j (by rw [World.size_alloc'] at a; omega) (by show j < (w1.alloc _).heap.size; rw [World.size_alloc']; omega)]; exact Below.heap_alloc _ _ _ c)
      refine ⟨w1.heap.size, g, 2, cap, vs, inY b c, by omega, hnc, hcap, rfl, q1, q2, ?_⟩
      have hn : w2.heap[w1.heap.size]? = _ := (hw w1.heap.size (by omega) (by show w1.heap.size < (w1.alloc _).heap.size; rw [World.size_alloc']; omega)).trans (heap_alloc_new w1 _)
      exact .inr (.inr ⟨rfl, _, _, _, _, hn⟩)
    · exact ((((Below.refl _ _).alloc (Nat.le_refl _) _).trans (hb1.mono (by simp))).alloc (by omega) _).drew

end Go.Proofs.Ytecccieeikmfeaa
