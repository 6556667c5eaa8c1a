/- The merged lists of the law, their HTML, and the package's answers at these. Conditions: texts of at most 1000 bytes in all. -/
import Derived.Test.YtecccieeikmfeaaGreatMrg8
namespace Go.Proofs.YtecccieeikmfeaaGreat
open Go.RowKit
theorem one_left (x y : ByteArray) {k : Nat} (h : k < x.size) : oneS (x ++ y) k = oneS x k := by
  have hb := bt_left x y h
  have he : (x ++ y).extract k (k + 1) = x.extract k (k + 1) := by
    refine ext_bt (by rw [ByteArray.size_extract, ByteArray.size_extract, ByteArray.size_append]; omega) fun j hj => ?_
    rw [ByteArray.size_extract, ByteArray.size_append] at hj
    rw [bt_extract _ _ _ _ (by omega) (by rw [ByteArray.size_append]; omega), bt_extract _ _ _ _ (by omega) (by omega), bt_left x y (by omega)]
  unfold oneS
  rw [hb, he]
theorem one_right (x y : ByteArray) {k : Nat} (h : k < y.size) : oneS (x ++ y) (x.size + k) = oneS y k := by
  have hb := bt_right x y k
  have he : (x ++ y).extract (x.size + k) (x.size + k + 1) = y.extract k (k + 1) := by
    refine ext_bt (by rw [ByteArray.size_extract, ByteArray.size_extract, ByteArray.size_append]; omega) fun j hj => ?_
    rw [ByteArray.size_extract, ByteArray.size_append] at hj
    rw [bt_extract _ _ _ _ (by omega) (by rw [ByteArray.size_append]; omega), bt_extract _ _ _ _ (by omega) (by omega), Nat.add_assoc, bt_right x y]
  unfold oneS
  rw [hb, he]
theorem esc_left (x y : ByteArray) : ∀ k, k ≤ x.size → escF (x ++ y) k = escF x k
  | 0, _ => rfl
  | k + 1, h => by rw [escF, escF, esc_left x y k (by omega), one_left x y (by omega)]
theorem esc_right (x y : ByteArray) : ∀ k, k ≤ y.size → escF (x ++ y) (x.size + k) = escF x x.size ++ escF y k
  | 0, _ => by rw [Nat.add_zero, esc_left x y x.size (Nat.le_refl _), escF, ByteArray.append_empty]
  | k + 1, h => by rw [← Nat.add_assoc, escF, esc_right x y k (by omega), one_right x y (by omega), escF, ByteArray.append_assoc]
theorem esc_app (x y : ByteArray) : escF (x ++ y) (x ++ y).size = escF x x.size ++ escF y y.size := by
  rw [ByteArray.size_append]; exact esc_right x y y.size (Nat.le_refl _)
/-! The lists. -/
def ps5 : Nat → Bool | 0 => true | 1 => true | 2 => false | _ => true
def xs5 (a b c : ByteArray) : Nat → ByteArray | 0 => a | 1 => b | 2 => b | 3 => c | _ => a
def ps3 : Nat → Bool | 0 => true | 1 => false | _ => true
def xs3 (d b e : ByteArray) : Nat → ByteArray | 0 => d | 1 => b | _ => e
theorem merged4 (a b c : ByteArray) : mergedL ps5 (xs5 a b c) 4 = [(true, a ++ b), (false, b), (true, c)] := by
  simp [mergedL, outsM, flushM, catY, ps5, xs5, ByteArray.empty_append]
theorem merged5 (a b c : ByteArray) : mergedL ps5 (xs5 a b c) 5 = [(true, a ++ b), (false, b), (true, c ++ a)] := by
  simp [mergedL, outsM, flushM, catY, ps5, xs5, ByteArray.empty_append]
theorem merged3 (d b e : ByteArray) : mergedL ps3 (xs3 d b e) 3 = [(true, d), (false, b), (true, e)] := by
  simp [mergedL, outsM, flushM, catY, ps3, xs3, ByteArray.empty_append]
theorem html3 (d b e : ByteArray) : catY (fun k => htmlQ (ps3 k) (xs3 d b e k)) 3 = escF d d.size ++ ⟨#[60, 99, 111, 100, 101, 62]⟩ ++ escF b b.size ++ ⟨#[60, 47, 99, 111, 100, 101, 62]⟩ ++ escF e e.size := by
  simp [catY, htmlQ, ps3, xs3, codeS, ByteArray.empty_append, ByteArray.append_assoc]
theorem html4 (a b c : ByteArray) : catY (fun k => htmlQ (ps5 k) (xs5 a b c k)) 4 = escF (a ++ b) (a ++ b).size ++ ⟨#[60, 99, 111, 100, 101, 62]⟩ ++ escF b b.size ++ ⟨#[60, 47, 99, 111, 100, 101, 62]⟩ ++ escF c c.size := by
  rw [esc_app]
  simp [catY, htmlQ, ps5, xs5, codeS, ByteArray.empty_append, ByteArray.append_assoc]
theorem html5 (a b c : ByteArray) : catY (fun k => htmlQ (ps5 k) (xs5 a b c k)) 5 = escF (a ++ b) (a ++ b).size ++ ⟨#[60, 99, 111, 100, 101, 62]⟩ ++ escF b b.size ++ ⟨#[60, 47, 99, 111, 100, 101, 62]⟩ ++ escF c c.size ++ escF a a.size := by
  rw [esc_app]
  simp [catY, htmlQ, ps5, xs5, codeS, ByteArray.empty_append, ByteArray.append_assoc]
theorem html3b (d b c a : ByteArray) : catY (fun k => htmlQ (ps3 k) (xs3 d b (c ++ a) k)) 3 = escF d d.size ++ ⟨#[60, 99, 111, 100, 101, 62]⟩ ++ escF b b.size ++ ⟨#[60, 47, 99, 111, 100, 101, 62]⟩ ++ escF c c.size ++ escF a a.size := by
  rw [html3, esc_app]
  simp [ByteArray.append_assoc]
theorem NodesP.turn {o : List (Bool × ByteArray)} {ps : Nat → Bool} {xs : Nat → ByteArray} {w w' : World} {e : Ending} (h : NodesP (mP o) (mX o) o.length w e w') (he : ∀ k, k < o.length → mP o k = ps k ∧ mX o k = xs k) : NodesP ps xs o.length w e w' := by
  obtain ⟨g, cap, h1, h2, h3, h4, h5⟩ := h
  refine ⟨g, cap, h1, h2, h3, ⟨h4.1, fun k hk => ?_⟩, h5⟩
  have := h4.2 k hk
  rw [(he k hk).1, (he k hk).2] at this
  exact this
theorem three_turn {o : List (Bool × ByteArray)} {d b e : ByteArray} (ho : o = [(true, d), (false, b), (true, e)]) : ∀ k, k < o.length → mP o k = ps3 k ∧ mX o k = xs3 d b e k := by
  subst ho
  intro k hk
  match k, hk with
  | 0, _ => exact ⟨rfl, rfl⟩
  | 1, _ => exact ⟨rfl, rfl⟩
  | 2, _ => exact ⟨rfl, rfl⟩
theorem merge_three (r n cap : Nat) (ps : Nat → Bool) (xs : Nat → ByteArray) (d b e : ByteArray) (w : World) (hn : n ≤ 10) (hn0 : 0 < n) (hr : NodesAt w r n ps xs) (hx : ∀ k, k < n → (xs k).size ≤ 10000) (ho : mergedL ps xs n = [(true, d), (false, b), (true, e)]) :
    Calls Tryz.prog 4 #[.slice (some ⟨r, 0, none⟩) n cap] w (NodesP ps3 (xs3 d b e) 3 w) := by
  have hlen : (mergedL ps xs n).length = 3 := by rw [ho]; rfl
  have h := implMerge_any r n cap ps xs w hn hn0 hr hx (by omega)
  refine h.mono fun e' w' q => ?_
  have := q.turn (three_turn ho)
  rw [hlen] at this
  exact this
theorem xs5_le {a b c : ByteArray} (ha : a.size ≤ 1000) (hb : b.size ≤ 1000) (hc : c.size ≤ 1000) : ∀ k, (xs5 a b c k).size ≤ 10000 := by
  intro k
  match k with
  | 0 => exact (by omega : a.size ≤ 10000)
  | 1 => exact (by omega : b.size ≤ 10000)
  | 2 => exact (by omega : b.size ≤ 10000)
  | 3 => exact (by omega : c.size ≤ 10000)
  | _ + 4 => exact (by omega : a.size ≤ 10000)
theorem xs3_le {d b e : ByteArray} (ha : d.size ≤ 2000) (hb : b.size ≤ 1000) (hc : e.size ≤ 2000) : ∀ k, (xs3 d b e k).size ≤ 10000 := by
  intro k
  match k with
  | 0 => exact (by omega : d.size ≤ 10000)
  | 1 => exact (by omega : b.size ≤ 10000)
  | _ + 2 => exact (by omega : e.size ≤ 10000)
/-- The first cell of each node: its kind. -/
theorem NodesAt.kind {w : World} {g n k : Nat} {ps : Nat → Bool} {xs : Nat → ByteArray} (h : NodesAt w g n ps xs) (hk : k < n) : w.cell? ⟨g, k * 16, none⟩ = some (.int .i64 (if ps k = true then 20 else 23)) := by
  have := h.2 k hk 0 (.int .i64 (if ps k = true then 20 else 23)) (by unfold nodeQ; split <;> rfl)
  rw [Nat.add_zero] at this
  exact this
end Go.Proofs.YtecccieeikmfeaaGreat
