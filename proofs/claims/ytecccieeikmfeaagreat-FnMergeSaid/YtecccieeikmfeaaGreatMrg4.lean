/- Plain texts and code spans turned into inlines, and the HTML of a list of such nodes. Conditions: at most ten nodes, texts of at most 10000 bytes. -/
import Derived.Test.YtecccieeikmfeaaGreatMrg3
namespace Go.Proofs.YtecccieeikmfeaaGreat
open Go.RowKit
abbrev nodeCs (k : Int) (t : ByteArray) : Array Value := #[.int .i64 k, .string t, .string ⟨#[]⟩, .int .i64 0, .string ⟨#[]⟩, .bool false, .slice none 0 0, .slice none 0 0, .int .i64 0, .int .i64 0, .string ⟨#[]⟩, .int .i64 0, .bool false, .bool false, .bool false, .slice none 0 0]
/-- The node of a plain text (true) or a code span (false). -/
def nodeQ (p : Bool) (t : ByteArray) : Array Value := if p = true then nodeCs 20 t else nodeCs 23 t
theorem nodeQ_size (p : Bool) (t : ByteArray) : (nodeQ p t).size = 16 := by unfold nodeQ; split <;> rfl
theorem nodeQ_one (p : Bool) (t : ByteArray) : (nodeQ p t).all (·.oneCell') = true := by unfold nodeQ; split <;> simp [Value.oneCell']
theorem new_at (w w2 : World) (A B : Obj) (hw : w2.heap[w.heap.size + 1]? = ((w.alloc A).alloc B).heap[w.heap.size + 1]?) : w2.heap[w.heap.size + 1]? = some B := by
  rw [hw]
  have h := heap_alloc_new (w.alloc A) B
  rw [World.size_alloc'] at h
  exact h
set_option maxHeartbeats 1000000 in
set_option maxRecDepth 100000 in
theorem put_plain (x : ByteArray) (w : World) : Calls Tryz.prog 14 #[.agg (nodeCs 20 x)] w (PutP (fun v w2 => LeafQ w2 v true x) w) := by
  go_enter Tryz.func14, Tryz.ntmps14
  go_wp2_with (go_at_call 9; refine (written_nil _).mono ?_; rintro e w' ⟨rfl, rfl⟩)
  go_ret
  refine ⟨50, w.heap.size + 1, rfl, fun w2 hw => ⟨w.heap.size + 1, .inl ⟨rfl, rfl, ?_⟩⟩, (((Below.refl _ _).alloc (Nat.le_refl _) _).alloc (by simp) _)⟩
  exact new_at w w2 _ _ (hw _ (by omega) (by simp))
set_option maxHeartbeats 1000000 in
set_option maxRecDepth 100000 in
theorem put_span (x : ByteArray) (w : World) : Calls Tryz.prog 14 #[.agg (nodeCs 23 x)] w (PutP (fun v w2 => LeafQ w2 v false x) w) := by
  go_enter Tryz.func14, Tryz.ntmps14
  go_wp2_with (go_at_call 9; refine (written_nil _).mono ?_; rintro e w' ⟨rfl, rfl⟩)
  go_ret
  refine ⟨59, w.heap.size + 1, rfl, fun w2 hw => ⟨w.heap.size + 1, .inr ⟨rfl, rfl, ?_⟩⟩, (((Below.refl _ _).alloc (Nat.le_refl _) _).alloc (by simp) _)⟩
  exact new_at w w2 _ _ (hw _ (by omega) (by simp))
theorem put_q (p : Bool) (x : ByteArray) (w : World) : Calls Tryz.prog 14 #[.agg (nodeQ p x)] w (PutP (fun v w2 => LeafQ w2 v p x) w) := by
  cases p
  · exact put_span x w
  · exact put_plain x w
/-- A row of nodes. -/
def NodesAt (w : World) (r n : Nat) (ps : Nat → Bool) (xs : Nat → ByteArray) : Prop := r < w.heap.size ∧ ∀ k, k < n → w.rangeAt r (k * 16) (nodeQ (ps k) (xs k)).toList
theorem NodesAt.below {w w' : World} {r n : Nat} {ps : Nat → Bool} {xs : Nat → ByteArray} (h : NodesAt w r n ps xs) (hb : Below w.heap.size w w') : NodesAt w' r n ps xs :=
  ⟨by have := hb.size; have := h.1; omega, fun k hk j v hv => by rw [hb.cell (p := ⟨r, k * 16 + j, none⟩) h.1]; exact h.2 k hk j v hv⟩
theorem written_q (r n cap : Nat) (ps : Nat → Bool) (xs : Nat → ByteArray) (w : World) (hn : n ≤ 10) (hn0 : 0 < n) (hr : NodesAt w r n ps xs) :
    Calls Tryz.prog 9 #[.slice (some ⟨r, 0, none⟩) n cap] w (WrittenP (fun k v w2 => LeafQ w2 v (ps k) (xs k)) n w) :=
  written_of r n cap (fun k => nodeQ (ps k) (xs k)) _ w (by omega) hn0 hr.2 hr.1 (fun k _ => ⟨nodeQ_size _ _, nodeQ_one _ _⟩) (fun k _ W _ => put_q (ps k) (xs k) W)
set_option maxHeartbeats 1000000 in
theorem implHTML_any (r n cap : Nat) (ps : Nat → Bool) (xs : Nat → ByteArray) (w : World) (hn : n ≤ 10) (hn0 : 0 < n) (hr : NodesAt w r n ps xs) (hx : ∀ k, k < n → (xs k).size ≤ 10000) :
    Calls Tryz.prog 6 #[.slice (some ⟨r, 0, none⟩) n cap] w fun e w' => e = .returned (.string (catY (fun k => htmlQ (ps k) (xs k)) n)) ∧ Below w.heap.size w w' := by
  have C := hide (written_q r n cap ps xs w hn hn0 hr)
  have HX := hide hx
  clear hr hx
  go_enter Tryz.func6, Tryz.ntmps6
  go_wp2_with (first | (go_at_call 9; refine C.out.mono ?_; rintro e w1 ⟨g, cap, vs, rfl, hnc, hcap, hH, hb1⟩; have Z := hide (zzHTML_any g n cap vs ps xs w1 hn hnc hcap hH.now.1 hH.now.2 HX.out)) | (go_at_call 10; refine Z.out.mono ?_; rintro e w2 ⟨rfl, hb2⟩))
  go_ret
  exact ⟨rfl, hb1.trans (hb2.mono hb1.size)⟩
end Go.Proofs.YtecccieeikmfeaaGreat
