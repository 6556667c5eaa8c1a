/- What the package's ZZText gives of a row of inlines. Conditions: sizes, as each states them. -/
import Derived.Test.YtecccieeikmfeaaWords1
namespace Go.Proofs.Ytecccieeikmfeaa
open Go.RowKit
/-- Emphasis, strong emphasis or a link with plain texts and code spans within, and what it writes. -/
def NodeP (w : World) (v : Value) (y : ByteArray) : Prop := ∃ (g r n cap : Nat) (vs : Nat → Value) (ys : Nat → ByteArray), n ≤ 10 ∧ n ≤ cap ∧ cap ≤ 9223372036854775807 ∧ y = catY ys n ∧ RowP w r n vs ∧ (∀ k, k < n → LeafP w (vs k) (ys k)) ∧
  ((v = .iface 55 (ptr g) ∧ ∃ mk, ObjAt w g #[.string mk, .slice (some ⟨r, 0, none⟩) n cap] 57) ∨
   (v = .iface 58 (ptr g) ∧ ∃ mk, ObjAt w g #[.string mk, .slice (some ⟨r, 0, none⟩) n cap] 59) ∨
   (v = .iface 65 (ptr g) ∧ ∃ u1 u2 c1 c2, ObjAt w g #[.slice (some ⟨r, 0, none⟩) n cap, .string u1, .string u2, .int .u8 c1, .bool c2] 68))
theorem NodeP.kept {B b : Nat} {t y : ByteArray} {v : Value} {w w' : World} (hl : NodeP w v y) (h : HoldsU B b t w) (hk : Lib.OthersKept 5 (some b) w w') : NodeP w' v y := by
  obtain ⟨g, r, n, cap, vs, ys, h1, h2, h3, h4, h5, h6, h7⟩ := hl
  refine ⟨g, r, n, cap, vs, ys, h1, h2, h3, h4, h5.kept h hk, fun k hk2 => (h6 k hk2).kept h hk, ?_⟩
  rcases h7 with ⟨e, mk, ho⟩ | ⟨e, mk, ho⟩ | ⟨e, u1, u2, c1, c2, ho⟩
  · exact .inl ⟨e, mk, ho.kept h hk (by decide) (by decide)⟩
  · exact .inr (.inl ⟨e, mk, ho.kept h hk (by decide) (by decide)⟩)
  · exact .inr (.inr ⟨e, u1, u2, c1, c2, ho.kept h hk (by decide) (by decide)⟩)
theorem NodeP.below {v : Value} {y : ByteArray} {w w' : World} (hl : NodeP w v y) (hb : Below w.heap.size w w') : NodeP w' v y := by
  obtain ⟨g, r, n, cap, vs, ys, h1, h2, h3, h4, h5, h6, h7⟩ := hl
  refine ⟨g, r, n, cap, vs, ys, h1, h2, h3, h4, h5.below hb, fun k hk2 => (h6 k hk2).below hb, ?_⟩
  rcases h7 with ⟨e, mk, ho⟩ | ⟨e, mk, ho⟩ | ⟨e, u1, u2, c1, c2, ho⟩
  · exact .inl ⟨e, mk, ho.below hb ho.lt⟩
  · exact .inr (.inl ⟨e, mk, ho.below hb ho.lt⟩)
  · exact .inr (.inr ⟨e, u1, u2, c1, c2, ho.below hb ho.lt⟩)
theorem NodeP.le {v : Value} {y : ByteArray} {w : World} (hl : NodeP w v y) : y.size ≤ 60000 := by
  obtain ⟨g, r, n, cap, vs, ys, h1, h2, h3, h4, h5, h6, _⟩ := hl
  have := cat_le (ys := ys) n (m := 6000) (fun k hk => (h6 k hk).le)
  rw [h4]; omega
def InlP (w : World) (v : Value) (y : ByteArray) : Prop := LeafP w v y ∨ NodeP w v y
theorem InlP.kept {B b : Nat} {t y : ByteArray} {v : Value} {w w' : World} (hl : InlP w v y) (h : HoldsU B b t w) (hk : Lib.OthersKept 5 (some b) w w') : InlP w' v y :=
  hl.elim (fun x => .inl (x.kept h hk)) (fun x => .inr (x.kept h hk))
theorem InlP.below {v : Value} {y : ByteArray} {w w' : World} (hl : InlP w v y) (hb : Below w.heap.size w w') : InlP w' v y :=
  hl.elim (fun x => .inl (x.below hb)) (fun x => .inr (x.below hb))
theorem InlP.le {v : Value} {y : ByteArray} {w : World} (hl : InlP w v y) : y.size ≤ 60000 :=
  hl.elim (fun x => by have := x.le; omega) (fun x => x.le)
abbrev bufW (w : World) : World := w.alloc (.cells #[.slice none 0 0, .int .i64 0, .int .i8 0] 40)
theorem buf_below (w : World) : Below w.heap.size w (bufW w) := (Below.refl _ _).alloc (Nat.le_refl _) _
set_option maxHeartbeats 2000000 in
set_option maxRecDepth 100000 in
theorem zzText_any (r n cap : Nat) (vs : Nat → Value) (ys : Nat → ByteArray) (w : World) (hn : n ≤ 10) (hnc : n ≤ cap) (hcap : cap ≤ 9223372036854775807) (hr : RowP w r n vs) (hl : ∀ k, k < n → InlP w (vs k) (ys k)) :
    Calls Try.prog 8 #[.slice (some ⟨r, 0, none⟩) n cap] w fun e w' => e = .returned (.string (catY ys n)) ∧ Below w.heap.size w w' := by
  have HL := hide (fun k hk => (hl k hk).le)
  have hl := hide (fun k hk => (hl k hk).below (buf_below w))
  have hr := hide (hr.below (buf_below w))
  have h0 := hide (holdsU_fresh w)
  go_enter Try.func8, Try.ntmps8
  go_wp2
  go_loopw [8] (fun kv wr => ∃ m : Nat, m ≤ n ∧ kv = .int .i64 m ∧ HoldsU w.heap.size w.heap.size (catY ys m) wr ∧ Below w.heap.size (bufW w) wr ∧ Lib.OthersKept 5 (some w.heap.size) (bufW w) wr) (fun kv _ => n - (intOf kv).toNat)
  case atStart => exact ⟨0, by omega, rfl, h0.out, Below.refl _ _, Lib.OthersKept.refl _ _ _⟩
  case round =>
    obtain ⟨m, hm, rfl, hH, hBe, hO⟩ := hrel
    by_cases hlt : m < n
    · have hltI : (m : Int) < (n : Int) := by omega
      have hcz : (catY ys m).size ≤ 600000 := by
        have := cat_le (ys := ys) m (m := 60000) (fun k hk => HL.out k (by omega))
        omega
      have hrow := (hr.out.kept h0.out hO).cell hlt
      have hszB : w.heap.size ≤ wr.heap.size := by have := hBe.size; simp at this; omega
      rcases (hl.out m hlt).kept h0.out hO with ⟨g1, x1, hx1, hy1, hk1⟩ | ⟨g1, r1, n1, cap1, vs1, ys1, q1, q2, q3, hy1, q5, q6, hk1⟩
      · have HY := hide hy1
        clear hy1
        rcases hk1 with ⟨ev, ho1⟩ | ⟨ev, ho1⟩
        all_goals
          rw [ev] at hrow
          have hc1 : wr.cell? ⟨g1, 0, none⟩ = some (.string x1) := (ho1.cell 0).trans rfl
          have hg1 := ho1.lt
          clear ev ho1
          go_wp2_with (first | (go_at_call 89; refine (PlainText_any _ _ g1 _ x1 _ hH hszB (by omega) (by omega) hc1 hg1).mono ?_; rintro e w1 ⟨rfl, hH1, hb1, ho1⟩) | (go_at_call 45; refine (CodeText_any _ _ g1 _ x1 _ hH hszB (by omega) (by omega) hc1 hg1).mono ?_; rintro e w1 ⟨rfl, hH1, hb1, ho1⟩))
          go_roundw
          case rel => exact ⟨m + 1, by omega, by go_num, by rw [catY, HY.out]; exact hH1, hBe.trans hb1, hO.trans ho1⟩
          case measure => simp [intOf]; omega
      · have HY := hide hy1
        have q5 := hide q5
        have q6 := hide q6
        clear hy1
        rcases hk1 with ⟨ev, mk, ho1⟩ | ⟨ev, mk, ho1⟩ | ⟨ev, u1, u2, c1, c2, ho1⟩
        · rw [ev] at hrow
          have C := hide (EmphText_any _ _ g1 r1 n1 cap1 mk vs1 ys1 _ wr hH hszB (by omega) q1 ho1 q5.out q6.out q2 q3)
          clear ev ho1
          go_wp2_with (go_at_call 52; refine C.out.mono ?_; rintro e w1 ⟨rfl, hH1, hb1, ho1⟩)
          go_roundw
          case rel => exact ⟨m + 1, by omega, by go_num, by rw [catY, HY.out]; exact hH1, hBe.trans hb1, hO.trans ho1⟩
          case measure => simp [intOf]; omega
        · rw [ev] at hrow
          have C := hide (StrongText_any _ _ g1 r1 n1 cap1 mk vs1 ys1 _ wr hH hszB (by omega) q1 ho1 q5.out q6.out q2 q3)
          clear ev ho1
          go_wp2_with (go_at_call 56; refine C.out.mono ?_; rintro e w1 ⟨rfl, hH1, hb1, ho1⟩)
          go_roundw
          case rel => exact ⟨m + 1, by omega, by go_num, by rw [catY, HY.out]; exact hH1, hBe.trans hb1, hO.trans ho1⟩
          case measure => simp [intOf]; omega
        · rw [ev] at hrow
          have C := hide (LinkText_any _ _ g1 r1 n1 cap1 u1 u2 c1 c2 vs1 ys1 _ wr hH hszB (by omega) q1 ho1 q5.out q6.out q2 q3)
          clear ev ho1
          go_wp2_with (go_at_call 69; refine C.out.mono ?_; rintro e w1 ⟨rfl, hH1, hb1, ho1⟩)
          go_roundw
          case rel => exact ⟨m + 1, by omega, by go_num, by rw [catY, HY.out]; exact hH1, hBe.trans hb1, hO.trans ho1⟩
          case measure => simp [intOf]; omega
    · have hmn : Hid (m = n) := by unfold Hid; omega
      have hltI : ¬ ((m : Int) < (n : Int)) := by omega
      clear hlt
      go_wp2_with (go_at_call 10; refine (stringU _ _ _ _ hH).mono ?_; rintro e w2 ⟨rfl, n2, rfl⟩)
      go_ret
      exact ⟨by rw [hmn.out]; rfl, below_drewN ((buf_below w).trans hBe) n2⟩
end Go.Proofs.Ytecccieeikmfeaa
