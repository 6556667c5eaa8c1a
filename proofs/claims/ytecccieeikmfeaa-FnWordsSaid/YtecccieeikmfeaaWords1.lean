/- What inlines write into a bytes.Buffer as plain text: plain texts, code spans, emphasis and links with such within. Conditions: sizes, as each states them. -/
import Derived.Test.YtecccieeikmfeaaEscU
import Derived.Deep.RegionWith
namespace Go.Proofs.Ytecccieeikmfeaa
open Go.RowKit
theorem HoldsU.alloc {B b : Nat} {t : ByteArray} {w : World} (h : HoldsU B b t w) (o : Obj) : HoldsU B b t (w.alloc o) := Lib.IsBuffer.alloc h o
theorem HoldsU.lt {B b : Nat} {t : ByteArray} {w : World} (h : HoldsU B b t w) : b < w.heap.size := Lib.IsBuffer.lt h
/-- What a print does to the world. -/
def Wrote (B b : Nat) (t y : ByteArray) (w w' : World) : Prop := HoldsU B b (t ++ y) w' ∧ Below B w w' ∧ Lib.OthersKept 5 (some b) w w'
/-- A struct's block. -/
def ObjAt (w : World) (g : Nat) (cs : Array Value) (T : TypeId) : Prop := w.heap[g]? = some (.cells cs T (0, 0))
theorem HoldsU.ne {B b g : Nat} {t : ByteArray} {cs : Array Value} {T : TypeId} {w : World} (h : HoldsU B b t w) (hg : ObjAt w g cs T) (hT : T ≠ 40) : g ≠ b := by
  rintro rfl
  obtain ⟨_, v, lr, hb, _⟩ := h
  unfold ObjAt at hg
  rw [hb] at hg
  have := Option.some.inj hg
  injection this with _ e2 _
  exact hT e2.symm
theorem ObjAt.kept {B b g : Nat} {t : ByteArray} {cs : Array Value} {T : TypeId} {w w' : World} (hg : ObjAt w g cs T) (h : HoldsU B b t w) (hk : Lib.OthersKept 5 (some b) w w') (hT : T ≠ 40) (hT2 : T ≠ 5) : ObjAt w' g cs T :=
  hk g _ hg (fun e => h.ne hg hT (Option.some.inj e)) (fun c fz e => by injection e with _ e2 _; exact hT2 e2)
theorem ObjAt.cell {w : World} {g : Nat} {cs : Array Value} {T : TypeId} (h : ObjAt w g cs T) (j : Nat) : w.cell? ⟨g, j, none⟩ = cs[j]? := by
  unfold ObjAt at h; simp [World.cell?, h]
theorem ObjAt.lt {w : World} {g : Nat} {cs : Array Value} {T : TypeId} (h : ObjAt w g cs T) : g < w.heap.size := (Array.getElem?_eq_some_iff.1 h).1
theorem ObjAt.below {w w' : World} {g B : Nat} {cs : Array Value} {T : TypeId} (h : ObjAt w g cs T) (hb : Below B w w') (hg : g < B) : ObjAt w' g cs T := by
  unfold ObjAt at h ⊢; rw [hb.block g hg]; exact h
set_option maxHeartbeats 1000000 in
set_option maxRecDepth 100000 in
theorem PlainText_any (B b g : Nat) (t x : ByteArray) (w : World) (h : HoldsU B b t w) (hB : B ≤ w.heap.size) (hx : x.size ≤ 1000000) (ht : t.size ≤ 1000000000) (hc : w.cell? ⟨g, 0, none⟩ = some (.string x)) (hg : g < w.heap.size) :
    Calls Try.prog 89 #[.pointer (some ⟨g, 0, none⟩), .pointer (some ⟨b, 0, none⟩)] w fun e w' => e = .returned (.tuple #[]) ∧ Wrote B b t (escF x x.size) w w' := by
  have hlt := h.lt
  have W := hide (zzWrite_any B b w.heap.size t x (w.alloc (.cells pairsV 9)).drew (h.alloc _) (by simp; omega) (by omega) (pairs_new w) hx ht)
  clear h
  go_enter Try.func89, Try.ntmps89
  go_wp2
  go_region_with (first | (go_at_call 47; refine (htmlEscaper_any _).mono ?_; rintro e w' ⟨rfl, rfl⟩) | (go_at_call 48; refine W.out.mono ?_; rintro e w1 ⟨rfl, hH1, hb1, ho1⟩))
  all_goals
    go_end0
    exact ⟨rfl, hH1, (((Below.refl B w).alloc hB _).drew).trans hb1, Lib.OthersKept.trans (((Lib.OthersKept.refl _ _ w).alloc _).drew) ho1⟩
set_option maxHeartbeats 1000000 in
set_option maxRecDepth 100000 in
theorem CodeText_any (B b g : Nat) (t x : ByteArray) (w : World) (h : HoldsU B b t w) (hB : B ≤ w.heap.size) (hx : x.size ≤ 1000000) (ht : t.size ≤ 1000000000) (hc : w.cell? ⟨g, 0, none⟩ = some (.string x)) (hg : g < w.heap.size) :
    Calls Try.prog 45 #[.pointer (some ⟨g, 0, none⟩), .pointer (some ⟨b, 0, none⟩)] w fun e w' => e = .returned (.tuple #[]) ∧ Wrote B b t (escF x x.size) w w' := by
  have hlt := h.lt
  have W := hide (zzWrite_any B b w.heap.size t x (w.alloc (.cells pairsV 9)).drew (h.alloc _) (by simp; omega) (by omega) (pairs_new w) hx ht)
  clear h
  go_enter Try.func45, Try.ntmps45
  go_wp2
  go_region_with (first | (go_at_call 47; refine (htmlEscaper_any _).mono ?_; rintro e w' ⟨rfl, rfl⟩) | (go_at_call 48; refine W.out.mono ?_; rintro e w1 ⟨rfl, hH1, hb1, ho1⟩))
  all_goals
    go_end0
    exact ⟨rfl, hH1, (((Below.refl B w).alloc hB _).drew).trans hb1, Lib.OthersKept.trans (((Lib.OthersKept.refl _ _ w).alloc _).drew) ho1⟩
abbrev ptr (g : Nat) : Value := .pointer (some ⟨g, 0, none⟩)
/-- A plain text or a code span, and what it writes. -/
def LeafP (w : World) (v : Value) (y : ByteArray) : Prop := ∃ (g : Nat) (x : ByteArray), x.size ≤ 1000 ∧ y = escF x x.size ∧ ((v = .iface 83 (ptr g) ∧ ObjAt w g #[.string x] 80) ∨ (v = .iface 52 (ptr g) ∧ ObjAt w g #[.string x] 54))
theorem LeafP.kept {B b : Nat} {t y : ByteArray} {v : Value} {w w' : World} (hl : LeafP w v y) (h : HoldsU B b t w) (hk : Lib.OthersKept 5 (some b) w w') : LeafP w' v y := by
  obtain ⟨g, x, h1, h2, h3⟩ := hl
  refine ⟨g, x, h1, h2, ?_⟩
  rcases h3 with ⟨e, ho⟩ | ⟨e, ho⟩
  · exact .inl ⟨e, ho.kept h hk (by decide) (by decide)⟩
  · exact .inr ⟨e, ho.kept h hk (by decide) (by decide)⟩
theorem LeafP.below {v : Value} {y : ByteArray} {w w' : World} (hl : LeafP w v y) (hb : Below w.heap.size w w') : LeafP w' v y := by
  obtain ⟨g, x, h1, h2, h3⟩ := hl
  refine ⟨g, x, h1, h2, ?_⟩
  rcases h3 with ⟨e, ho⟩ | ⟨e, ho⟩
  · exact .inl ⟨e, ho.below hb ho.lt⟩
  · exact .inr ⟨e, ho.below hb ho.lt⟩
theorem LeafP.le {v : Value} {y : ByteArray} {w : World} (hl : LeafP w v y) : y.size ≤ 6000 := by
  obtain ⟨g, x, h1, h2, _⟩ := hl
  have := esc_le x x.size
  rw [h2]; omega
/-- A row of inlines. -/
def RowP (w : World) (r n : Nat) (vs : Nat → Value) : Prop := ∃ cur, ObjAt w r cur 42 ∧ ∀ k, k < n → cur[k]? = some (vs k)
theorem RowP.kept {B b r n : Nat} {t : ByteArray} {vs : Nat → Value} {w w' : World} (hl : RowP w r n vs) (h : HoldsU B b t w) (hk : Lib.OthersKept 5 (some b) w w') : RowP w' r n vs := by
  obtain ⟨cur, h1, h2⟩ := hl
  exact ⟨cur, h1.kept h hk (by decide) (by decide), h2⟩
theorem RowP.below {r n : Nat} {vs : Nat → Value} {w w' : World} (hl : RowP w r n vs) (hb : Below w.heap.size w w') : RowP w' r n vs := by
  obtain ⟨cur, h1, h2⟩ := hl
  exact ⟨cur, h1.below hb h1.lt, h2⟩
theorem RowP.cell {r n k : Nat} {vs : Nat → Value} {w : World} (hl : RowP w r n vs) (hk : k < n) : w.cell? ⟨r, k, none⟩ = some (vs k) := by
  obtain ⟨cur, h1, h2⟩ := hl
  rw [h1.cell, h2 k hk]
def catY (ys : Nat → ByteArray) : Nat → ByteArray
  | 0 => ByteArray.empty
  | k + 1 => catY ys k ++ ys k
theorem cat_le {ys : Nat → ByteArray} {m : Nat} : ∀ n, (∀ k, k < n → (ys k).size ≤ m) → (catY ys n).size ≤ m * n
  | 0, _ => by simp [catY]
  | n + 1, h => by
    have h1 := cat_le n (fun k hk => h k (by omega))
    have h2 := h n (by omega)
    rw [catY, ByteArray.size_append, Nat.mul_succ]; omega
theorem cat_step (t : ByteArray) (ys : Nat → ByteArray) (k : Nat) : t ++ catY ys (k + 1) = t ++ catY ys k ++ ys k := by rw [catY, ByteArray.append_assoc]
set_option maxHeartbeats 1000000 in
set_option maxRecDepth 100000 in
theorem EmphText_any (B b g r n cap : Nat) (mk : ByteArray) (vs : Nat → Value) (ys : Nat → ByteArray) (t : ByteArray) (w : World) (h : HoldsU B b t w) (hB : B ≤ w.heap.size) (ht : t.size ≤ 1000000) (hn : n ≤ 10)
    (ho : ObjAt w g #[.string mk, .slice (some ⟨r, 0, none⟩) n cap] 57) (hr : RowP w r n vs) (hl : ∀ k, k < n → LeafP w (vs k) (ys k)) (hnc : n ≤ cap) (hcap : cap ≤ 9223372036854775807) :
    Calls Try.prog 52 #[ptr g, ptr b] w fun e w' => e = .returned (.tuple #[]) ∧ Wrote B b t (catY ys n) w w' := by
  have hc0 : w.cell? ⟨g, 1, none⟩ = some (.slice (some ⟨r, 0, none⟩) n cap) := (ho.cell 1).trans rfl
  have HL := hide (fun k hk => (hl k hk).le)
  have hl := hide hl
  have hr := hide hr
  have h0 := hide h
  clear h ho
  go_enter Try.func52, Try.ntmps52
  go_wp2
  go_loopw [11] (fun kv wr => ∃ m : Nat, m ≤ n ∧ kv = .int .i64 m ∧ HoldsU B b (t ++ catY ys m) wr ∧ Below B w wr ∧ Lib.OthersKept 5 (some b) w wr) (fun kv _ => n - (intOf kv).toNat)
  case atStart => exact ⟨0, by omega, rfl, by rw [catY, ByteArray.append_empty]; exact h0.out, Below.refl _ _, Lib.OthersKept.refl _ _ _⟩
  case round =>
    obtain ⟨m, hm, rfl, hH, hBe, hO⟩ := hrel
    by_cases hlt : m < n
    · have hltI : (m : Int) < (n : Int) := by omega
      have hcz : (t ++ catY ys m).size ≤ 1100000 := by
        have := cat_le (ys := ys) m (m := 6000) (fun k hk => HL.out k (by omega))
        rw [ByteArray.size_append]; omega
      have hrow := (hr.out.kept h0.out hO).cell hlt
      have hszB : B ≤ wr.heap.size := by have := hBe.size; omega
      obtain ⟨g1, x1, hx1, hy1, hk1⟩ := (hl.out m hlt).kept h0.out hO
      have HY := hide hy1
      clear hy1
      rcases hk1 with ⟨ev, ho1⟩ | ⟨ev, ho1⟩
      all_goals
        rw [ev] at hrow
        have hc1 : wr.cell? ⟨g1, 0, none⟩ = some (.string x1) := (ho1.cell 0).trans rfl
        have hg1 := ho1.lt
        clear ev ho1
        go_wp2_with (first | (go_at_call 89; refine (PlainText_any B b g1 _ x1 _ hH hszB (by omega) (by omega) hc1 hg1).mono ?_; rintro e w1 ⟨rfl, hH1, hb1, ho1⟩) | (go_at_call 45; refine (CodeText_any B b g1 _ x1 _ hH hszB (by omega) (by omega) hc1 hg1).mono ?_; rintro e w1 ⟨rfl, hH1, hb1, ho1⟩))
        go_roundw
        case rel => exact ⟨m + 1, by omega, by go_num, by rw [cat_step, HY.out]; exact hH1, hBe.trans hb1, hO.trans ho1⟩
        case measure => simp [intOf]; omega
    · have hmn : Hid (m = n) := by unfold Hid; omega
      have hltI : ¬ ((m : Int) < (n : Int)) := by omega
      clear hlt
      go_wp2
      go_end0
      exact ⟨rfl, by rw [← hmn.out]; exact hH, hBe, hO⟩
set_option maxHeartbeats 1000000 in
set_option maxRecDepth 100000 in
theorem StrongText_any (B b g r n cap : Nat) (mk : ByteArray) (vs : Nat → Value) (ys : Nat → ByteArray) (t : ByteArray) (w : World) (h : HoldsU B b t w) (hB : B ≤ w.heap.size) (ht : t.size ≤ 1000000) (hn : n ≤ 10)
    (ho : ObjAt w g #[.string mk, .slice (some ⟨r, 0, none⟩) n cap] 59) (hr : RowP w r n vs) (hl : ∀ k, k < n → LeafP w (vs k) (ys k)) (hnc : n ≤ cap) (hcap : cap ≤ 9223372036854775807) :
    Calls Try.prog 56 #[ptr g, ptr b] w fun e w' => e = .returned (.tuple #[]) ∧ Wrote B b t (catY ys n) w w' := by
  have hc0 : w.cell? ⟨g, 1, none⟩ = some (.slice (some ⟨r, 0, none⟩) n cap) := (ho.cell 1).trans rfl
  have HL := hide (fun k hk => (hl k hk).le)
  have hl := hide hl
  have hr := hide hr
  have h0 := hide h
  clear h ho
  go_enter Try.func56, Try.ntmps56
  go_wp2
  go_loopw [11] (fun kv wr => ∃ m : Nat, m ≤ n ∧ kv = .int .i64 m ∧ HoldsU B b (t ++ catY ys m) wr ∧ Below B w wr ∧ Lib.OthersKept 5 (some b) w wr) (fun kv _ => n - (intOf kv).toNat)
  case atStart => exact ⟨0, by omega, rfl, by rw [catY, ByteArray.append_empty]; exact h0.out, Below.refl _ _, Lib.OthersKept.refl _ _ _⟩
  case round =>
    obtain ⟨m, hm, rfl, hH, hBe, hO⟩ := hrel
    by_cases hlt : m < n
    · have hltI : (m : Int) < (n : Int) := by omega
      have hcz : (t ++ catY ys m).size ≤ 1100000 := by
        have := cat_le (ys := ys) m (m := 6000) (fun k hk => HL.out k (by omega))
        rw [ByteArray.size_append]; omega
      have hrow := (hr.out.kept h0.out hO).cell hlt
      have hszB : B ≤ wr.heap.size := by have := hBe.size; omega
      obtain ⟨g1, x1, hx1, hy1, hk1⟩ := (hl.out m hlt).kept h0.out hO
      have HY := hide hy1
      clear hy1
      rcases hk1 with ⟨ev, ho1⟩ | ⟨ev, ho1⟩
      all_goals
        rw [ev] at hrow
        have hc1 : wr.cell? ⟨g1, 0, none⟩ = some (.string x1) := (ho1.cell 0).trans rfl
        have hg1 := ho1.lt
        clear ev ho1
        go_wp2_with (first | (go_at_call 89; refine (PlainText_any B b g1 _ x1 _ hH hszB (by omega) (by omega) hc1 hg1).mono ?_; rintro e w1 ⟨rfl, hH1, hb1, ho1⟩) | (go_at_call 45; refine (CodeText_any B b g1 _ x1 _ hH hszB (by omega) (by omega) hc1 hg1).mono ?_; rintro e w1 ⟨rfl, hH1, hb1, ho1⟩))
        go_roundw
        case rel => exact ⟨m + 1, by omega, by go_num, by rw [cat_step, HY.out]; exact hH1, hBe.trans hb1, hO.trans ho1⟩
        case measure => simp [intOf]; omega
    · have hmn : Hid (m = n) := by unfold Hid; omega
      have hltI : ¬ ((m : Int) < (n : Int)) := by omega
      clear hlt
      go_wp2
      go_end0
      exact ⟨rfl, by rw [← hmn.out]; exact hH, hBe, hO⟩
set_option maxHeartbeats 1000000 in
set_option maxRecDepth 100000 in
theorem LinkText_any (B b g r n cap : Nat) (u1 u2 : ByteArray) (c1 : Int) (c2 : Bool) (vs : Nat → Value) (ys : Nat → ByteArray) (t : ByteArray) (w : World) (h : HoldsU B b t w) (hB : B ≤ w.heap.size) (ht : t.size ≤ 1000000) (hn : n ≤ 10)
    (ho : ObjAt w g #[.slice (some ⟨r, 0, none⟩) n cap, .string u1, .string u2, .int .u8 c1, .bool c2] 68) (hr : RowP w r n vs) (hl : ∀ k, k < n → LeafP w (vs k) (ys k)) (hnc : n ≤ cap) (hcap : cap ≤ 9223372036854775807) :
    Calls Try.prog 69 #[ptr g, ptr b] w fun e w' => e = .returned (.tuple #[]) ∧ Wrote B b t (catY ys n) w w' := by
  have hc0 : w.cell? ⟨g, 0, none⟩ = some (.slice (some ⟨r, 0, none⟩) n cap) := (ho.cell 0).trans rfl
  have HL := hide (fun k hk => (hl k hk).le)
  have hl := hide hl
  have hr := hide hr
  have h0 := hide h
  clear h ho
  go_enter Try.func69, Try.ntmps69
  go_wp2
  go_loopw [11] (fun kv wr => ∃ m : Nat, m ≤ n ∧ kv = .int .i64 m ∧ HoldsU B b (t ++ catY ys m) wr ∧ Below B w wr ∧ Lib.OthersKept 5 (some b) w wr) (fun kv _ => n - (intOf kv).toNat)
  case atStart => exact ⟨0, by omega, rfl, by rw [catY, ByteArray.append_empty]; exact h0.out, Below.refl _ _, Lib.OthersKept.refl _ _ _⟩
  case round =>
    obtain ⟨m, hm, rfl, hH, hBe, hO⟩ := hrel
    by_cases hlt : m < n
    · have hltI : (m : Int) < (n : Int) := by omega
      have hcz : (t ++ catY ys m).size ≤ 1100000 := by
        have := cat_le (ys := ys) m (m := 6000) (fun k hk => HL.out k (by omega))
        rw [ByteArray.size_append]; omega
      have hrow := (hr.out.kept h0.out hO).cell hlt
      have hszB : B ≤ wr.heap.size := by have := hBe.size; omega
      obtain ⟨g1, x1, hx1, hy1, hk1⟩ := (hl.out m hlt).kept h0.out hO
      have HY := hide hy1
      clear hy1
      rcases hk1 with ⟨ev, ho1⟩ | ⟨ev, ho1⟩
      all_goals
        rw [ev] at hrow
        have hc1 : wr.cell? ⟨g1, 0, none⟩ = some (.string x1) := (ho1.cell 0).trans rfl
        have hg1 := ho1.lt
        clear ev ho1
        go_wp2_with (first | (go_at_call 89; refine (PlainText_any B b g1 _ x1 _ hH hszB (by omega) (by omega) hc1 hg1).mono ?_; rintro e w1 ⟨rfl, hH1, hb1, ho1⟩) | (go_at_call 45; refine (CodeText_any B b g1 _ x1 _ hH hszB (by omega) (by omega) hc1 hg1).mono ?_; rintro e w1 ⟨rfl, hH1, hb1, ho1⟩))
        go_roundw
        case rel => exact ⟨m + 1, by omega, by go_num, by rw [cat_step, HY.out]; exact hH1, hBe.trans hb1, hO.trans ho1⟩
        case measure => simp [intOf]; omega
    · have hmn : Hid (m = n) := by unfold Hid; omega
      have hltI : ¬ ((m : Int) < (n : Int)) := by omega
      clear hlt
      go_wp2
      go_end0
      exact ⟨rfl, by rw [← hmn.out]; exact hH, hBe, hO⟩
end Go.Proofs.Ytecccieeikmfeaa
