/- The plain text of three inlines, the middle one emphasis or a link with two within. Conditions: texts of at most 1000 bytes. -/
import Derived.Test.YtecccieeikmfeaaWords4
namespace Go.Proofs.Ytecccieeikmfeaa
open Go.RowKit
def outN (kd : Int) (a d : ByteArray) (r0 : Nat) : Nat → Array Value | 0 => nodeCs 20 a | 1 => nodeKs kd r0 | _ => nodeCs 20 d
def outY (a b c d : ByteArray) : Nat → ByteArray | 0 => escF a a.size | 1 => catY (inY b c) 2 | _ => escF d d.size
theorem put_kind (kd : Int) (hk : kd = 24 ∨ kd = 25 ∨ kd = 27) (r : Nat) (b c : ByteArray) (w : World) (hb : b.size ≤ 1000) (hc : c.size ≤ 1000) (hr : ∀ k, k < 2 → w.rangeAt r (k * 16) (inN b c k).toList) (hlt : r < w.heap.size) :
    Calls Try.prog 11 #[.agg (nodeKs kd r)] w (PutP (fun v w2 => NodeP w2 v (catY (inY b c) 2)) w) := by
  rcases hk with rfl | rfl | rfl
  · exact put_emph r b c w hb hc hr hlt
  · exact put_strong r b c w hb hc hr hlt
  · exact put_link r b c w hb hc hr hlt
theorem range_below {w W : World} {r o : Nat} {cs : List Value} (h : w.rangeAt r o cs) (hb : Below w.heap.size w W) (hlt : r < w.heap.size) : W.rangeAt r o cs := fun j v hv => by
  rw [hb.cell (p := ⟨r, o + j, none⟩) hlt]; exact h j v hv
set_option maxHeartbeats 1000000 in
theorem inlText_any (kd : Int) (hk : kd = 24 ∨ kd = 25 ∨ kd = 27) (r r0 : Nat) (a b c d : ByteArray) (w : World) (ha : a.size ≤ 1000) (hb : b.size ≤ 1000) (hc : c.size ≤ 1000) (hd : d.size ≤ 1000)
    (hr : ∀ k, k < 3 → w.rangeAt r (k * 16) (outN kd a d r0 k).toList) (hlt : r < w.heap.size) (hr0 : ∀ k, k < 2 → w.rangeAt r0 (k * 16) (inN b c k).toList) (hlt0 : r0 < w.heap.size) :
    Calls Try.prog 5 #[.slice (some ⟨r, 0, none⟩) 3 3] w fun e w' => e = .returned (.string (catY (outY a b c d) 3)) ∧ Below w.heap.size w w' := by
  have C := hide (written_of r 3 3 (outN kd a d r0) (fun k v w2 => InlP w2 v (outY a b c d k)) w (by omega) (by omega) hr hlt (fun k hk => by
    match k, hk with
    | 0, _ => exact ⟨rfl, by simp [outN, Value.oneCell']⟩
    | 1, _ => exact ⟨rfl, by simp [outN, Value.oneCell']⟩
    | 2, _ => exact ⟨rfl, by simp [outN, Value.oneCell']⟩) (fun k hk2 W hW => by
    match k, hk2 with
    | 0, _ => exact (put_plain a W ha).mono fun e w' h => h.mono fun v w2 q => .inl q
    | 1, _ => exact (put_kind kd hk r0 b c W hb hc (fun k hk => range_below (hr0 k hk) hW hlt0) (by have := hW.size; omega)).mono fun e w' h => h.mono fun v w2 q => .inr q
    | 2, _ => exact (put_plain d W hd).mono fun e w' h => h.mono fun v w2 q => .inl q))
  clear hr hr0
  go_enter Try.func5, Try.ntmps5
  go_wp2_with (first | (go_at_call 9; refine C.out.mono ?_; rintro e w1 ⟨g, cap, vs, rfl, hnc, hcap, hH, hb1⟩; have Z := hide (zzText_any g 3 cap vs _ w1 (by omega) hnc hcap hH.now.1 hH.now.2)) | (go_at_call 8; refine Z.out.mono ?_; rintro e w2 ⟨rfl, hb2⟩))
  go_ret
  exact ⟨rfl, hb1.trans (hb2.mono hb1.size)⟩
theorem range_mid {w : World} {r : Nat} {P B S : Array Value} {T : TypeId} (h : w.heap[r]? = some (.cells (P ++ B ++ S) T (0, 0))) : w.rangeAt r P.size B.toList := fun j v hv => by
  have hj : j < B.size := by simpa using (List.getElem?_eq_some_iff.1 hv).1
  rw [show w.cell? ⟨r, P.size + j, none⟩ = (P ++ B ++ S)[P.size + j]? by simp [World.cell?, h]]
  rw [Array.getElem?_append_left (by rw [Array.size_append]; omega), Array.getElem?_append_right (by omega), Nat.add_sub_cancel_left]
  simpa using hv
theorem out_rows (kd : Int) (a d : ByteArray) (r0 : Nat) {w : World} {r : Nat} {C : Array Value} {T : TypeId} (hC : C = nodeCs 20 a ++ nodeKs kd r0 ++ nodeCs 20 d) (h : w.heap[r]? = some (.cells C T (0, 0))) : ∀ k, k < 3 → w.rangeAt r (k * 16) (outN kd a d r0 k).toList := by
  intro k hk
  subst hC
  have z1 : (nodeCs 20 a).size = 16 := rfl
  have z2 : (nodeKs kd r0).size = 16 := rfl
  match k, hk with
  | 0, _ =>
    have := range_mid (P := #[]) (B := nodeCs 20 a) (S := nodeKs kd r0 ++ nodeCs 20 d) (w := w) (r := r) (T := T) (by rw [Array.empty_append, ← Array.append_assoc]; exact h)
    exact this
  | 1, _ =>
    have := range_mid h
    rw [z1] at this
    exact this
  | 2, _ =>
    have := range_mid (P := nodeCs 20 a ++ nodeKs kd r0) (B := nodeCs 20 d) (S := #[]) (w := w) (r := r) (T := T) (by rw [Array.append_empty]; exact h)
    rw [Array.size_append, z1, z2] at this
    exact this
theorem in_rows (b c : ByteArray) {w : World} {r : Nat} {C : Array Value} {T : TypeId} (hC : C = nodeCs 20 b ++ nodeCs 23 c) (h : w.heap[r]? = some (.cells C T (0, 0))) : ∀ k, k < 2 → w.rangeAt r (k * 16) (inN b c k).toList := by
  intro k hk
  subst hC
  have z1 : (nodeCs 20 b).size = 16 := rfl
  match k, hk with
  | 0, _ =>
    have := range_mid (P := #[]) (B := nodeCs 20 b) (S := nodeCs 23 c) (w := w) (r := r) (T := T) (by rw [Array.empty_append]; exact h)
    exact this
  | 1, _ =>
    have := range_mid (P := nodeCs 20 b) (B := nodeCs 23 c) (S := #[]) (w := w) (r := r) (T := T) (by rw [Array.append_empty]; exact h)
    rw [z1] at this
    exact this
end Go.Proofs.Ytecccieeikmfeaa
