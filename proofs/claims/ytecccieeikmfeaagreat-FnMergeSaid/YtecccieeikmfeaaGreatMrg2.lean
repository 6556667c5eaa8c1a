/- What the package's ZZInlineHTML gives of a row of plain texts and code spans. Conditions: sizes, as each states them. -/
import Derived.Test.YtecccieeikmfeaaGreatMrg1
namespace Go.Proofs.YtecccieeikmfeaaGreat
open Go.RowKit
/-- A plain text (true) or a code span (false) with the text x. -/
def LeafQ (w : World) (v : Value) (p : Bool) (x : ByteArray) : Prop := ∃ g : Nat, (p = true ∧ v = .iface 50 (ptr g) ∧ ObjAt w g #[.string x] 53) ∨ (p = false ∧ v = .iface 59 (ptr g) ∧ ObjAt w g #[.string x] 60)
theorem LeafQ.kept {B b : Nat} {t x : ByteArray} {p : Bool} {v : Value} {w w' : World} (hl : LeafQ w v p x) (h : HoldsU B b t w) (hk : Lib.OthersKept 5 (some b) w w') : LeafQ w' v p x := by
  obtain ⟨g, h3⟩ := hl
  refine ⟨g, ?_⟩
  rcases h3 with ⟨e0, e, ho⟩ | ⟨e0, e, ho⟩
  · exact .inl ⟨e0, e, ho.kept h hk (by decide) (by decide)⟩
  · exact .inr ⟨e0, e, ho.kept h hk (by decide) (by decide)⟩
theorem LeafQ.below {p : Bool} {x : ByteArray} {v : Value} {w w' : World} (hl : LeafQ w v p x) (hb : Below w.heap.size w w') : LeafQ w' v p x := by
  obtain ⟨g, h3⟩ := hl
  refine ⟨g, ?_⟩
  rcases h3 with ⟨e0, e, ho⟩ | ⟨e0, e, ho⟩
  · exact .inl ⟨e0, e, ho.below hb ho.lt⟩
  · exact .inr ⟨e0, e, ho.below hb ho.lt⟩
/-- A row of inlines. -/
def RowP (w : World) (r n : Nat) (vs : Nat → Value) : Prop := ∃ cur, ObjAt w r cur 37 ∧ ∀ k, k < n → cur[k]? = some (vs k)
theorem RowP.kept {B b r n : Nat} {t : ByteArray} {vs : Nat → Value} {w w' : World} (hl : RowP w r n vs) (h : HoldsU B b t w) (hk : Lib.OthersKept 5 (some b) w w') : RowP w' r n vs := by
  obtain ⟨cur, h1, h2⟩ := hl
  exact ⟨cur, h1.kept h hk (by decide) (by decide), h2⟩
theorem RowP.below {r n : Nat} {vs : Nat → Value} {w w' : World} (hl : RowP w r n vs) (hb : Below w.heap.size w w') : RowP w' r n vs := by
  obtain ⟨cur, h1, h2⟩ := hl
  exact ⟨cur, h1.below hb h1.lt, h2⟩
theorem RowP.cell {r n k : Nat} {vs : Nat → Value} {w : World} (hl : RowP w r n vs) (hk : k < n) : w.cell? ⟨r, k, none⟩ = some (vs k) := by
  obtain ⟨cur, h1, h2⟩ := hl
  rw [h1.cell, h2 k hk]
def catY (ys : Nat → ByteArray) : Nat → ByteArray
  | 0 => ByteArray.empty
  | k + 1 => catY ys k ++ ys k
theorem cat_le {ys : Nat → ByteArray} {m : Nat} : ∀ n, (∀ k, k < n → (ys k).size ≤ m) → (catY ys n).size ≤ m * n
  | 0, _ => by simp [catY]
  | n + 1, h => by
    have h1 := cat_le n (fun k hk => h k (by omega))
    have h2 := h n (by omega)
    rw [catY, ByteArray.size_append, Nat.mul_succ]; omega
theorem cat_step (t : ByteArray) (ys : Nat → ByteArray) (k : Nat) : t ++ catY ys (k + 1) = t ++ catY ys k ++ ys k := by rw [catY, ByteArray.append_assoc]
/-- The HTML of one. -/
def htmlQ (p : Bool) (x : ByteArray) : ByteArray := if p = true then escF x x.size else codeS x
theorem htmlQ_le (p : Bool) (x : ByteArray) (hx : x.size ≤ 10000) : (htmlQ p x).size ≤ 60013 := by
  have h1 := esc_le x x.size
  have h2 := code_le x
  unfold htmlQ; split <;> omega
abbrev bufW (w : World) : World := w.alloc (.cells #[.slice none 0 0, .int .i64 0, .int .i8 0] 46)
theorem buf_below (w : World) : Below w.heap.size w (bufW w) := (Below.refl _ _).alloc (Nat.le_refl _) _
set_option maxHeartbeats 2000000 in
set_option maxRecDepth 100000 in
theorem zzHTML_any (r n cap : Nat) (vs : Nat → Value) (ps : Nat → Bool) (xs : Nat → ByteArray) (w : World) (hn : n ≤ 10) (hnc : n ≤ cap) (hcap : cap ≤ 9223372036854775807) (hr : RowP w r n vs) (hl : ∀ k, k < n → LeafQ w (vs k) (ps k) (xs k)) (hx : ∀ k, k < n → (xs k).size ≤ 10000) :
    Calls Tryz.prog 10 #[.slice (some ⟨r, 0, none⟩) n cap] w fun e w' => e = .returned (.string (catY (fun k => htmlQ (ps k) (xs k)) n)) ∧ Below w.heap.size w w' := by
  have HL := hide (fun k hk => htmlQ_le (ps k) (xs k) (hx k hk))
  have HX := hide hx
  have hl := hide (fun k hk => (hl k hk).below (buf_below w))
  have hr := hide (hr.below (buf_below w))
  have h0 := hide (holdsU_fresh w)
  obtain ⟨ys, hys⟩ : ∃ ys : Nat → ByteArray, ys = fun k => htmlQ (ps k) (xs k) := ⟨_, rfl⟩
  rw [← hys]
  have HYS := hide (fun k => congrFun hys k)
  clear hx hys
  go_enter Tryz.func10, Tryz.ntmps10
  go_wp2
  go_loopw [8] (fun kv wr => ∃ m : Nat, m ≤ n ∧ kv = .int .i64 m ∧ HoldsU w.heap.size w.heap.size (catY ys m) wr ∧ Below w.heap.size (bufW w) wr ∧ Lib.OthersKept 5 (some w.heap.size) (bufW w) wr) (fun kv _ => n - (intOf kv).toNat)
  case atStart => exact ⟨0, by omega, rfl, h0.out, Below.refl _ _, Lib.OthersKept.refl _ _ _⟩
  case round =>
    obtain ⟨m, hm, rfl, hH, hBe, hO⟩ := hrel
    by_cases hlt : m < n
    · have hltI : (m : Int) < (n : Int) := by omega
      have hcz : (catY ys m).size ≤ 600130 := by
        have := cat_le (ys := ys) m (m := 60013) (fun k hk => by rw [HYS.out k]; exact HL.out k (by omega))
        omega
      have hrow := (hr.out.kept h0.out hO).cell hlt
      have hszB : w.heap.size ≤ wr.heap.size := by have := hBe.size; simp at this; omega
      have hx1 := HX.out m hlt
      have HY := hide (HYS.out m)
      obtain ⟨g1, hk1⟩ := (hl.out m hlt).kept h0.out hO
      rcases hk1 with ⟨ep, ev, ho1⟩ | ⟨ep, ev, ho1⟩
      all_goals
        have HY2 := hide (HY.out.trans (by rw [ep] : _ = htmlQ _ (xs m)))
        rw [ev] at hrow
        have hc1 : wr.cell? ⟨g1, 0, none⟩ = some (.string (xs m)) := (ho1.cell 0).trans rfl
        have hg1 := ho1.lt
        clear ev ho1 ep
        go_wp2_with (first | (go_at_call 47; refine (PlainHTML_any _ _ g1 _ (xs m) _ hH hszB (by omega) (by omega) hc1 hg1).mono ?_; rintro e w1 ⟨rfl, hH1, hb1, ho1⟩) | (go_at_call 69; refine (CodeHTML_any _ _ g1 _ (xs m) _ hH hszB (by omega) (by omega) hc1 hg1).mono ?_; rintro e w1 ⟨rfl, hH1, hb1, ho1⟩))
        go_roundw
        case rel => exact ⟨m + 1, by omega, by go_num, by rw [catY, HY2.out]; exact hH1, hBe.trans hb1, hO.trans ho1⟩
        case measure => simp [intOf]; omega
    · have hmn : Hid (m = n) := by unfold Hid; omega
      have hltI : ¬ ((m : Int) < (n : Int)) := by omega
      clear hlt
      go_wp2_with (go_at_call 15; refine (stringU _ _ _ _ hH).mono ?_; rintro e w2 ⟨rfl, n2, rfl⟩)
      go_ret
      exact ⟨by rw [hmn.out]; rfl, below_drewN ((buf_below w).trans hBe) n2⟩
end Go.Proofs.YtecccieeikmfeaaGreat
