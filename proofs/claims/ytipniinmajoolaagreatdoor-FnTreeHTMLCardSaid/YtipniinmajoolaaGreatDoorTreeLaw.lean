/- The HTML of a tree that bytes make is as the reference has it: laws.FnTreeHTML's walk. Conditions: none but what a slice of bytes is. -/
import Derived.Test.YtipniinmajoolaaGreatDoorBl12
import Derived.Test.YtipniinmajoolaaGreatDoorBl14
import Derived.Test.YtipniinmajoolaaGreatDoorIm2
import Derived.Test.YtipniinmajoolaaGreatDoorBuK
import Derived.Test.YtipniinmajoolaaGreatDoorSp4
namespace Go.Proofs.YtipniinmajoolaaGreatDoor
open Go.RowKit
theorem block_all (bb : Nat) (bv : Value) (N : Nat) : ∀ d, d ≤ 3 → BlockC d bb bv N ∧ (0 < d → ListC (d - 1) bb bv N ∧ BlockC (d - 1) bb bv N)
  | 0, _ => ⟨block_any 0 bb bv N (fun h => absurd h (by omega)) (fun h => absurd h (by omega)) (by omega), fun h => absurd h (by omega)⟩
  | d + 1, h => by
    have ih := block_all bb bv N d (by omega)
    have hL : ListC d bb bv N := list_any d bb bv N (fun h0 => blocks_any (d - 1) 2 bb bv N (ih.2 h0).2 (by omega) (by omega) (by omega)) (by omega)
    have hB : BlocksC d 3 bb bv N := blocks_any d 3 bb bv N ih.1 (by omega) (by omega) (by omega)
    exact ⟨block_any (d + 1) bb bv N (fun _ => by rw [Nat.add_sub_cancel]; exact hB) (fun _ => by rw [Nat.add_sub_cancel]; exact hL) h, fun _ => by rw [Nat.add_sub_cancel]; exact ⟨hL, ih.1⟩⟩
/-- The bytes of the call. -/
def BytesV (bv : Value) (N : Nat) (w : World) : Prop :=
  N ≤ 300 ∧ ∃ (ao : Option Addr) (cap : Nat), bv = .slice ao N cap ∧ ∀ k, k < N → ∃ (g o : Nat) (z : Int), ao = some ⟨g, o, none⟩ ∧ g < w.heap.size ∧ 0 ≤ z ∧ z ≤ 255 ∧ w.cell? ⟨g, o + k, none⟩ = some (.int .u8 z)
theorem built_any (bv : Value) (N : Nat) (w : World) (hV : BytesV bv N w) :
    Calls Tryz.prog 5 #[bv] w fun e w' => (∃ (t : ByteArray) (ks : Value) (n : Nat) (ps : Nat → Option ByteArray) (ys : Nat → ByteArray), e = .returned (.tuple #[.string t, .agg (sN 1 ⟨#[]⟩ ⟨#[]⟩ 0 ⟨#[]⟩ false ks 0 0)]) ∧ Kids 10 (SB 4 w') w' ks n ps ys) ∧ Below w.heap.size w w' := by
  have BC : BlocksC 3 4 (w.heap.size + 1) bv N := blocks_any 3 4 _ _ _ (block_all _ _ _ 3 (by omega)).1 (by omega) (by omega) (by omega)
  have hB0 : BOk (w.heap.size + 1) bv N ((w.alloc (.cells zeroN 27)).alloc (.cells #[bv, .int .i64 0, .int .i64 0, .bool false, .int .i64 0] 39)) := by
    obtain ⟨h1, ao, cap, h2, h3⟩ := hV
    refine ⟨0, 0, 0, Nat.zero_le _, newB2 _ _ _, h1, ?_, ao, cap, h2, fun k hk => ?_⟩
    · have e1 := World.size_alloc' (w.alloc (.cells zeroN 27)) (.cells #[bv, .int .i64 0, .int .i64 0, .bool false, .int .i64 0] 39)
      have e2 := World.size_alloc' w (.cells zeroN 27)
      omega
    · obtain ⟨g, o, z, q1, q2, q3, q4, q5⟩ := h3 k hk
      exact ⟨g, o, z, q1, by omega, q3, q4, cell_old (cell_old q5 _) _⟩
  obtain ⟨h1, ao, cap0, rfl, h3⟩ := hV
  have HV := hide h3
  have H1 := hide (BC _ hB0)
  have HN := hide (newB1 w (.cells zeroN 27))
  have hz : Hid ((w.alloc (.cells zeroN 27)).heap.size = w.heap.size + 1) := hide (World.size_alloc' _ _)
  have INFO := info_sn10
  clear h3 hB0 BC
  go_enter Tryz.func5, Tryz.ntmps5
  go_wp2_with (first | (go_at_call 9; refine H1.out.mono ?_; rintro e w1 ⟨g, n, cap, g2, n2, cap2, ps, ys, rfl, q1, q2, q3, q4, q5, qS, qB, qG⟩; have QS := hide qS; have QG := hide qG; have QO : Hid (ObjIs w1 w.heap.size zeroN 27) := hide (ObjIs.keep (w := (w.alloc (.cells zeroN 27)).alloc (.cells #[.slice ao N cap0, .int .i64 0, .int .i64 0, .bool false, .int .i64 0] 39)) ((Below.heap_alloc _ _ _ (by rw [World.size_alloc']; omega)).trans (newB1 _ _)) qG (fun e => by (have := Option.some.inj e); omega)); clear qS qB qG) | (go_at_call 10; refine (joined_any g n cap (LM 3) w1 QS.out.now.1.1 (by (have : NL 3 = 7290 := by decide); omega) (by decide)).mono ?_; rintro e w2 ⟨⟨t, rfl, ht⟩, rfl⟩; clear ht) | (refine wpList_store_obj rfl 27 (.tmp 3) (.tmp 18) rfl w.heap.size zeroN (sN 1 ⟨#[]⟩ ⟨#[]⟩ 0 ⟨#[]⟩ false (.slice (some ⟨g2, 0, none⟩) n2 cap2) 0 0) QO.out rfl rfl INFO rfl (sn_one rfl) ?_; rintro W hW; have HW := fun j => heap_cell hW.1 j; have HWG := hide hW.2; clear hW))
  have hfin : (∃ (t' : ByteArray) (ks' : Value) (n' : Nat) (ps' : Nat → Option ByteArray) (ys' : Nat → ByteArray), Ending.returned (.tuple #[.string t, .agg (sN 1 ⟨#[]⟩ ⟨#[]⟩ 0 ⟨#[]⟩ false (.slice (some ⟨g2, 0, none⟩) n2 cap2) 0 0)]) = .returned (.tuple #[.string t', .agg (sN 1 ⟨#[]⟩ ⟨#[]⟩ 0 ⟨#[]⟩ false ks' 0 0)]) ∧ Kids 10 (SB 4 W) W ks' n' ps' ys') ∧ Below w.heap.size w W := by
    have e1 := hz.out
    have e2 := World.size_alloc' (w.alloc (.cells zeroN 27)) (.cells #[.slice ao N cap0, .int .i64 0, .int .i64 0, .bool false, .int .i64 0] 39)
    have hG := HWG.out
    have hS := QS.out.keep (w' := W) (A' := fun _ => False) hG.size (fun j a b _ => hG.block j b (fun e => by have := Option.some.inj e; omega)) (fun _ q => q.elim)
    refine ⟨⟨t, _, n2, ps, ys, rfl, hS.now.2⟩, ?_⟩
    exact ((((Below.refl _ w).alloc (Nat.le_refl _) _).alloc (by omega) _).grown QG.out (by omega) (fun k hk => by have := Option.some.inj hk; omega)).grown hG (Nat.le_trans (by omega) QG.out.size) (fun k hk => by have := Option.some.inj hk; omega)
  exact bodyPost_ret (v := .tuple #[.string t, .agg (sN 1 ⟨#[]⟩ ⟨#[]⟩ 0 ⟨#[]⟩ false (.slice (some ⟨g2, 0, none⟩) n2 cap2) 0 0)]) (by simp [results, Tryz.results5, go_sem, HW]) rfl hfin
end Go.Proofs.YtipniinmajoolaaGreatDoor
namespace Go.Proofs.YtipniinmajoolaaGreatDoor
open Go.RowKit
theorem RowN.congr {sz : Nat} {w : World} {ks : Value} {n : Nat} {cs cs' : Nat → Array Value} (h : RowN sz w ks n cs) (e : ∀ k, k < n → cs k = cs' k) : RowN sz w ks n cs' := by
  rcases h with h | ⟨g, cap, h1, h2, h3, h4, h5, h6⟩
  · exact .inl h
  · exact .inr ⟨g, cap, h1, h2, h3, h4, h5, fun k hk => by rw [← e k hk]; exact h6 k hk⟩
theorem RowN.none {sz : Nat} {w : World} {ks : Value} {cs : Nat → Array Value} (h : RowN sz w ks 0 cs) : ks = .slice none 0 0 := by
  rcases h with h | ⟨_, _, _, h, _⟩
  · exact h.2
  · omega
theorem RowN.sl {sz : Nat} {w : World} {ks : Value} {n : Nat} {cs : Nat → Array Value} (h : RowN sz w ks n cs) : ∃ (ao : Option Addr) (kn kc : Nat), ks = .slice ao kn kc := by
  rcases h with ⟨_, h⟩ | ⟨_, _, h, _⟩
  · exact ⟨_, _, _, h⟩
  · exact ⟨_, _, _, h⟩
theorem sn_form {k : Int} {t ti : ByteArray} {n : Int} {c : ByteArray} {l : Bool} {ks : Value} {f o : Int} (h : ∃ (ao : Option Addr) (kn kc : Nat), ks = .slice ao kn kc) : (sN k t ti n c l ks f o).size = 10 ∧ (sN k t ti n c l ks f o).all (·.oneCell') = true := by
  obtain ⟨ao, kn, kc, rfl⟩ := h
  exact ⟨rfl, by simp [Value.oneCell']⟩
theorem in16 {k : Int} {t ti : ByteArray} {n : Int} {c : ByteArray} {l : Bool} {ks : Value} {m : ByteArray} {wd : Int} {tg : Bool} (h : ∃ (ao : Option Addr) (kn kc : Nat), ks = .slice ao kn kc) : (iN k t ti n c l ks m wd tg).size = 16 ∧ (iN k t ti n c l ks m wd tg).all (·.oneCell') = true := by
  obtain ⟨ao, kn, kc, rfl⟩ := h
  exact ⟨rfl, by simp [Value.oneCell']⟩
/-- What given_of gives, read as a node. -/
theorem given_to {ι κ : Type} {R : World → Array Value → ι → Prop} {R' : World → Array Value → κ → Prop} {x : κ} {w : World} {k : Int} {t ti : ByteArray} {num : Int} {c : ByteArray} {l : Bool} {m : ByteArray} {wd : Int} {tg : Bool} {n : Nat} {xs : Nat → ι} {e : Ending} {w' : World}
    (h : ∃ ks' : Value, e = .returned (.agg (iN k t ti num c l ks' m wd tg)) ∧ Side w.heap.size (fun _ => False) (fun w2 => ∃ cs : Nat → Array Value, RowN 16 w2 ks' n cs ∧ ∀ j, j < n → R w2 (cs j) (xs j)) w' ∧ Below w.heap.size w w')
    (hR : ∀ (w2 : World) (ks' : Value) (cs : Nat → Array Value), RowN 16 w2 ks' n cs → (∀ j, j < n → R w2 (cs j) (xs j)) → R' w2 (iN k t ti num c l ks' m wd tg) x) : GivenP R' x w e w' := by
  obtain ⟨ks', h1, h2, h3⟩ := h
  obtain ⟨cs0, hr0, _⟩ := h2.now
  obtain ⟨h4, h5⟩ := in16 (k := k) (t := t) (ti := ti) (n := num) (c := c) (l := l) (m := m) (wd := wd) (tg := tg) hr0.sl
  exact ⟨_, h1, h4, h5, h2.mono fun w2 ⟨cs, a, b⟩ => hR w2 ks' cs a b, h3⟩
abbrev PlainR (_ : World) (cs : Array Value) (x : ByteArray) : Prop := cs = iN 20 x ⟨#[]⟩ 0 ⟨#[]⟩ false (.slice none 0 0) ⟨#[]⟩ 0 false
theorem given_plain (w : World) (x : ByteArray) (tight : Bool) : Calls Tryz.prog 7 #[.agg (sN 20 x ⟨#[]⟩ 0 ⟨#[]⟩ false (.slice none 0 0) 0 0), .bool tight] w (GivenP PlainR x w) := by
  have h := given_of PlainR w 20 x ⟨#[]⟩ 0 ⟨#[]⟩ false (.slice none 0 0) 0 0 tight 0 (fun _ => #[]) (fun _ => x) (by omega) (.inl ⟨rfl, rfl⟩) (fun j h => absurd h (by omega)) (fun j h => absurd h (by omega))
  have e1 : tightG 20 tight = false := by cases tight <;> rfl
  rw [e1] at h
  refine h.mono fun e w' hh => given_to hh fun w2 ks' cs hr _ => ?_
  obtain rfl := hr.none
  rfl
theorem given_inl (w : World) (cs : Array Value) (i : Inl) (tight : Bool) (h : SInl w cs i) : Calls Tryz.prog 7 #[.agg cs, .bool tight] w (GivenP IInl i w) := by
  obtain ⟨ks, rfl, hr⟩ := h
  have hn : i.n ≤ 1000 := by cases i <;> (simp only [Inl.n]; omega)
  have h := given_of PlainR w i.k i.t ⟨#[]⟩ 0 ⟨#[]⟩ false ks 0 0 tight i.n _ (fun _ => i.x) hn hr (fun j _ => sn_form ⟨_, _, _, rfl⟩) (fun j _ wx _ => given_plain wx i.x _)
  have e1 : tightG i.k tight = false := by cases i <;> cases tight <;> rfl
  have e2 : markG i.k = i.m := by cases i <;> rfl
  have e3 : widthG i.k = 0 := by cases i <;> rfl
  rw [e1, e2, e3] at h
  exact h.mono fun e w' hh => given_to hh fun w2 ks' cs hr hk => ⟨ks', rfl, hr.congr hk⟩
theorem sinl_one {w : World} {cs : Array Value} {i : Inl} (h : SInl w cs i) : cs.size = 10 ∧ cs.all (·.oneCell') = true := by
  obtain ⟨ks, rfl, hr⟩ := h
  exact sn_form hr.sl
theorem inls_done {w2 : World} {w : World} {ks ks' : Value} {n : Nat} {is : Nat → Inl} (hI : Inls 10 SInl w ks n is) {cs : Nat → Array Value} (hr : RowN 16 w2 ks' n cs) (hk : ∀ j, j < n → IInl w2 (cs j) (is j)) : Inls 16 IInl w2 ks' n is :=
  ⟨hI.le, hI.ok, cs, hr, hk⟩
theorem sb_one : ∀ {d : Nat} {w : World} {cs : Array Value} {p : Option ByteArray} {y : ByteArray}, SB d w cs p y → cs.size = 10 ∧ cs.all (·.oneCell') = true
  | 0, _, _, _, _, h => h.elim
  | d + 1, w, cs, p, y, h => by
    rcases h.2 with ⟨ks, f, o, n, is, rfl, hI, _⟩ | ⟨ks, f, o, n, hh, is, rfl, _, _, hI, _⟩ | ⟨f, o, rfl, _⟩ | ⟨t, x, f, o, rfl, _⟩ | ⟨ks, f, o, n, ps, ys, rfl, hK, _⟩ | ⟨ks, f, o, num, c, l, n, zs, rfl, hm, hK, _⟩
    · obtain ⟨_, hr, _⟩ := hI.row
      exact sn_form hr.sl
    · obtain ⟨_, hr, _⟩ := hI.row
      exact sn_form hr.sl
    · exact sn_form ⟨_, _, _, rfl⟩
    · exact sn_form ⟨_, _, _, rfl⟩
    · obtain ⟨_, _, _, hr, _⟩ := hK
      exact sn_form hr.sl
    · obtain ⟨_, _, _, hr, _⟩ := hK
      exact sn_form hr.sl
theorem sitem_one {R : Array Value → Option ByteArray → ByteArray → Prop} {w : World} {l : Bool} {cs : Array Value} {y : ByteArray} (h : SItem R w l cs y) : cs.size = 10 ∧ cs.all (·.oneCell') = true := by
  obtain ⟨ks, f, o, m, ps, ys, rfl, _, hK, _⟩ := h
  obtain ⟨_, _, _, hr, _⟩ := hK
  exact sn_form hr.sl
abbrev BlockR (d : Nat) (w : World) (cs : Array Value) (x : Bool × ByteArray) : Prop := IB d w cs x.1 x.2
/-- laws.given at the blocks of the depth. -/
def GivenD (d : Nat) : Prop := ∀ (w : World) (cs : Array Value) (p : Option ByteArray) (y : ByteArray) (T : Bool), SB d w cs p y → Calls Tryz.prog 7 #[.agg cs, .bool T] w (GivenP (BlockR d) (tOf (!T) p, yOf (!T) p y) w)
theorem given_item (d : Nat) (IH : GivenD d) (w : World) (cs : Array Value) (y : ByteArray) (l : Bool) (h : SItem (SB d w) w l cs y) :
    Calls Tryz.prog 7 #[.agg cs, .bool (!l)] w (GivenP (fun w2 cs y => IItem (IB d w2) w2 cs y) y w) := by
  obtain ⟨ks, f, o, m, ps, ys, rfl, hm, ⟨h0, h4, kcs, hr, hk⟩, rfl⟩ := h
  have e0 : kidG 4 false (!l) = !l := by cases l <;> rfl
  have h := given_of (BlockR d) w 4 ⟨#[]⟩ ⟨#[]⟩ 0 ⟨#[]⟩ false ks f o (!l) m kcs (fun j => (tOf (!!l) (ps j), yOf (!!l) (ps j) (ys j))) (by omega) hr (fun j hj => sb_one (hk j hj)) (fun j hj wx hb => by rw [e0]; exact IH wx _ _ _ _ ((hk j hj).below hb))
  have e1 : tightG 4 (!l) = false := by cases l <;> rfl
  rw [e1] at h
  refine h.mono fun e w' hh => given_to hh fun w2 ks' cs hr hk => ⟨ks', m, fun k => tOf l (ps k), fun k => yOf l (ps k) (ys k), rfl, hm, ⟨h0, h4, cs, hr, fun k hk2 => ?_⟩, rfl⟩
  have := hk k hk2
  simpa only [Bool.not_not] using this
theorem given_kids (d : Nat) (IH : GivenD d) (w : World) (k : Int) (ks : Value) (f o : Int) (n : Nat) (ps : Nat → Option ByteArray) (ys : Nat → ByteArray) (T : Bool) (hK : Kids 10 (SB d w) w ks n ps ys) (h3 : k ≠ 3) (h4 : k ≠ 4) (h6 : k ≠ 6) (hmk : markG k = ⟨#[]⟩) :
    Calls Tryz.prog 7 #[.agg (sN k ⟨#[]⟩ ⟨#[]⟩ 0 ⟨#[]⟩ false ks f o), .bool T] w fun e w' => ∃ ks' : Value, e = .returned (.agg (iN k ⟨#[]⟩ ⟨#[]⟩ 0 ⟨#[]⟩ false ks' ⟨#[]⟩ 0 false)) ∧
      Side w.heap.size (fun _ => False) (fun w2 => ∃ cs : Nat → Array Value, RowN 16 w2 ks' n cs ∧ ∀ j, j < n → BlockR d w2 (cs j) (false, ys j)) w' ∧ Below w.heap.size w w' := by
  obtain ⟨h0, hn, kcs, hr, hk⟩ := hK
  have e3 : (k == 3) = false := by rw [beq_eq_false_iff_ne]; exact h3
  have e4 : (k == 4) = false := by rw [beq_eq_false_iff_ne]; exact h4
  have e6 : (k == 6) = false := by rw [beq_eq_false_iff_ne]; exact h6
  have e0 : kidG k false T = false := by unfold kidG; rw [e3, e4]; cases T <;> rfl
  have h := given_of (BlockR d) w k ⟨#[]⟩ ⟨#[]⟩ 0 ⟨#[]⟩ false ks f o T n kcs (fun j => (false, ys j)) (by omega) hr (fun j hj => sb_one (hk j hj)) (fun j hj wx hb => by
    rw [e0]
    have := IH wx _ _ _ false ((hk j hj).below hb)
    have e5 : (tOf (!false) (ps j), yOf (!false) (ps j) (ys j)) = (false, ys j) := rfl
    rw [e5] at this
    exact this)
  have e1 : tightG k T = false := by unfold tightG; rw [e6]; cases T <;> rfl
  have e2 : widthG k = 0 := if_neg h4
  rw [e1, e2, hmk] at h
  exact h
theorem t_none (T : Bool) : tOf (!T) none = false := by cases T <;> rfl
theorem y_none (T : Bool) (y : ByteArray) : yOf (!T) none y = y := by cases T <;> rfl
theorem given_D : ∀ d, GivenD d
  | 0 => fun _ _ _ _ _ h => h.elim
  | d + 1 => by
    have IH := given_D d
    intro w cs p y T h
    rcases h.2 with ⟨ks, f, o, n, is, rfl, hI, rfl, rfl⟩ | ⟨ks, f, o, n, hh, is, rfl, h1, h6, hI, rfl, rfl⟩ | ⟨f, o, rfl, rfl, rfl⟩ | ⟨t, x, f, o, rfl, hC, rfl, rfl⟩ | ⟨ks, f, o, n, ps, ys, rfl, hK, rfl, rfl⟩ | ⟨ks, f, o, num, c, l, n, zs, rfl, hm, hK, rfl, rfl⟩
    · obtain ⟨kcs, hr, hk⟩ := hI.row
      have hle := hI.le
      have g := given_of IInl w 6 ⟨#[]⟩ ⟨#[]⟩ 0 ⟨#[]⟩ false ks f o T n kcs is (by omega) hr (fun j hj => sinl_one (hk j hj)) (fun j hj wx hb => given_inl wx _ _ _ ((hk j hj).below hb))
      have e1 : tightG 6 T = T := by cases T <;> rfl
      rw [e1] at g
      refine g.mono fun e w' hh => given_to hh fun w2 ks' cs hr hk => .inl ⟨ks', n, is, ?_, inls_done hI hr hk, ?_⟩
      · cases T <;> rfl
      · cases T <;> rfl
    · obtain ⟨kcs, hr, hk⟩ := hI.row
      have hle := hI.le
      have g := given_of IInl w 5 ⟨#[]⟩ ⟨#[]⟩ hh ⟨#[]⟩ false ks f o T n kcs is (by omega) hr (fun j hj => sinl_one (hk j hj)) (fun j hj wx hb => given_inl wx _ _ _ ((hk j hj).below hb))
      have e1 : tightG 5 T = false := by cases T <;> rfl
      rw [e1] at g
      exact g.mono fun e w' hh2 => given_to hh2 fun w2 ks' cs hr hk => .inr (.inl ⟨ks', n, hh, is, rfl, h1, h6, inls_done hI hr hk, t_none T, y_none T _⟩)
    · have g := given_of PlainR w 9 ⟨#[]⟩ ⟨#[]⟩ 0 ⟨#[]⟩ false (.slice none 0 0) f o T 0 (fun _ => #[]) (fun _ => ⟨#[]⟩) (by omega) (.inl ⟨rfl, rfl⟩) (fun j h => absurd h (by omega)) (fun j h => absurd h (by omega))
      have e1 : tightG 9 T = false := by cases T <;> rfl
      rw [e1] at g
      refine g.mono fun e w' hh2 => given_to hh2 fun w2 ks' cs hr hk => .inr (.inr (.inl ⟨?_, t_none T, y_none T _⟩))
      obtain rfl := hr.none
      rfl
    · have g := given_of PlainR w 7 x t 0 ⟨#[]⟩ false (.slice none 0 0) f o T 0 (fun _ => #[]) (fun _ => ⟨#[]⟩) (by omega) (.inl ⟨rfl, rfl⟩) (fun j h => absurd h (by omega)) (fun j h => absurd h (by omega))
      have e1 : tightG 7 T = false := by cases T <;> rfl
      rw [e1] at g
      refine g.mono fun e w' hh2 => given_to hh2 fun w2 ks' cs hr hk => .inr (.inr (.inr (.inl ⟨t, x, ?_, hC, t_none T, y_none T _⟩)))
      obtain rfl := hr.none
      rfl
    · refine (given_kids d IH w 2 ks f o n ps ys T hK (by decide) (by decide) (by decide) rfl).mono fun e w' hh2 => given_to hh2 fun w2 ks' cs hr hk => .inr (.inr (.inr (.inr (.inl ⟨ks', n, fun _ => false, ys, rfl, ⟨hK.1, hK.2.1, cs, hr, hk⟩, fun _ _ => rfl, t_none T, y_none T _⟩))))
    · obtain ⟨h0, h4, kcs, hr, hk⟩ := hK
      have e0 : kidG 3 l T = !l := by cases l <;> cases T <;> rfl
      have g := given_of (fun w2 cs y => IItem (IB d w2) w2 cs y) w 3 ⟨#[]⟩ ⟨#[]⟩ num c l ks f o T n kcs zs (by omega) hr (fun j hj => sitem_one (hk j hj)) (fun j hj wx hb => by
        rw [e0]
        exact given_item d IH wx _ _ l ((hk j hj).moved hb fun _ _ _ h => h.below hb))
      have e1 : tightG 3 T = false := by cases T <;> rfl
      rw [e1] at g
      exact g.mono fun e w' hh2 => given_to hh2 fun w2 ks' cs hr hk => .inr (.inr (.inr (.inr (.inr ⟨ks', num, c, l, n, zs, rfl, hm, ⟨h0, h4, cs, hr, hk⟩, t_none T, y_none T _⟩))))
/-- laws.given at a document. -/
theorem given_doc (d : Nat) (w : World) (ks : Value) (n : Nat) (ps : Nat → Option ByteArray) (ys : Nat → ByteArray) (hK : Kids 10 (SB d w) w ks n ps ys) :
    Calls Tryz.prog 7 #[.agg (sN 1 ⟨#[]⟩ ⟨#[]⟩ 0 ⟨#[]⟩ false ks 0 0), .bool false] w fun e w' => ∃ ks' : Value, e = .returned (.agg (iN 1 ⟨#[]⟩ ⟨#[]⟩ 0 ⟨#[]⟩ false ks' ⟨#[]⟩ 0 false)) ∧
      Side w.heap.size (fun _ => False) (fun w2 => KidsI 16 (IB d w2) w2 ks' n (fun _ => false) ys) w' ∧ Below w.heap.size w w' := by
  refine (given_kids d (given_D d) w 1 ks 0 0 n ps ys false hK (by decide) (by decide) (by decide) rfl).mono fun e w' ⟨ks', h1, h2, h3⟩ => ⟨ks', h1, h2.mono fun w2 ⟨cs, a, b⟩ => ⟨hK.1, hK.2.1, cs, a, b⟩, h3⟩
end Go.Proofs.YtipniinmajoolaaGreatDoor
namespace Go.Proofs.YtipniinmajoolaaGreatDoor
open Go.RowKit
theorem Below.others {w w' : World} {b : Nat} (h : Below w.heap.size w w') : Lib.OthersKept 5 (some b) w w' := fun g _ hg _ _ => (h.block g (Array.getElem?_eq_some_iff.1 hg).1).trans hg
set_option maxHeartbeats 1000000 in
set_option maxRecDepth 100000 in
theorem toHTML_any (w : World) (v : Value) (y : ByteArray) (hv : PrK w v false y) (hy : y.size ≤ 1000000000000) :
    Calls Tryz.prog 11 #[v] w fun e w' => e = .returned (.string y) ∧ Below w.heap.size w w' := by
  obtain ⟨T, g, f, rfl, hD, _, _, hP⟩ := hv
  have hb0 := below1 w (.cells #[.slice none 0 0, .int .i64 0, .int .i8 0] 55)
  have CP := hide (hP _ w.heap.size w.heap.size ByteArray.empty (Nat.le_refl _) (Below.others hb0) (holdsU_fresh w) hb0.size (by show 0 + y.size ≤ _; omega) (fun _ => .inl rfl))
  have HD := hide hD
  have HB0 := hide hb0
  clear hP hD hb0
  go_enter Tryz.func11, Tryz.ntmps11
  go_wp2_with (first | ((with_reducible refine wpList_invoke ?_ (.tmp 4) (.tmp 3) "PrintHTML" 57 ?_ T g f ?_ HD.out _ (ptr w.heap.size) ?_ CP.out ?_); exact rfl; exact rfl; (simp [go_sem]); (simp [go_sem]); rintro w1 hW1; have HW1 := hide hW1; clear hW1) | (go_at_call 16; refine (stringU _ _ _ _ HW1.out.1).mono ?_; rintro e w2 ⟨rfl, n2, rfl⟩))
  go_ret
  exact ⟨ret_str ByteArray.empty_append, below_drewN (HB0.out.trans HW1.out.2.1) n2⟩
set_option maxHeartbeats 1000000 in
set_option maxRecDepth 100000 in
theorem htmlOf_any (d : Nat) (w : World) (ks : Value) (n : Nat) (ts : Nat → Bool) (ys : Nat → ByteArray) (hK : KidsI 16 (IB d w) w ks n ts ys) (ht : ∀ k, k < n → ts k = false) (hy : (catY ys n).size ≤ 1000000000000) :
    Calls Tryz.prog 6 #[.agg (iN 1 ⟨#[]⟩ ⟨#[]⟩ 0 ⟨#[]⟩ false ks ⟨#[]⟩ 0 false)] w fun e w' => e = .returned (.string (catY ys n)) ∧ Below w.heap.size w w' := by
  obtain ⟨ao, kn, kc, rfl⟩ := kids_shp hK
  have BD := hide (built_doc d (built_D d) (w.alloc (.cells (iN 1 ⟨#[]⟩ ⟨#[]⟩ 0 ⟨#[]⟩ false (.slice ao kn kc) ⟨#[]⟩ 0 false) 34)) _ n ts ys (hK.belowB (below1 w _)) ht)
  have HB := hide (below1 w (.cells (iN 1 ⟨#[]⟩ ⟨#[]⟩ 0 ⟨#[]⟩ false (.slice ao kn kc) ⟨#[]⟩ 0 false) 34))
  obtain ⟨Y, hY⟩ : ∃ Y, Y = catY ys n := ⟨_, rfl⟩
  rw [← hY] at BD hy ⊢
  clear hK ht hY
  go_enter Tryz.func6, Tryz.ntmps6
  go_wp2_with (first | (go_at_call 12; (with_reducible refine BD.out.mono ?_); rintro e w1 ⟨T, g, rfl, hH, hb1⟩; have TH := hide (toHTML_any w1 _ Y hH.now hy); have HB1 := hide hb1; clear hH hb1) | (go_at_call 11; (with_reducible refine TH.out.mono ?_); rintro e w2 ⟨rfl, hb2⟩; have HB2 := hide hb2; clear hb2))
  go_ret
  have h1 := HB.out.trans (HB1.out.mono HB.out.size)
  exact ⟨rfl, h1.trans (HB2.out.mono h1.size)⟩
end Go.Proofs.YtipniinmajoolaaGreatDoor
namespace Go.Proofs.YtipniinmajoolaaGreatDoor
open Go.RowKit
/-- A slice of integers that came in. -/
def IsRow (k : IntKind) (w : World) (a : Option Addr) (len cap : Nat) (zs : List Int) : Prop :=
  (a = none ∧ len = 0 ∧ cap = 0 ∧ zs = []) ∨
  ∃ x, a = some x ∧ len ≤ cap ∧ cap ≤ maxLen ∧ zs.length = cap ∧ (∀ i, i < zs.length → w.cell? (x.add i) = some (.int k (zs.getD i 0))) ∧ ∀ n ∈ zs, (Lit.int k n).wf = true
theorem spot_none {w : World} {x : Addr} {v : Value} (h : w.cell? (x.add 0) = some v) : x.spot = none := by
  obtain ⟨b, o, s⟩ := x
  cases s with
  | none => rfl
  | some s =>
    have e : (⟨b, o, some s⟩ : Addr).add 0 = ⟨b, o, some s⟩ := rfl
    rw [e] at h
    unfold World.cell? at h
    split at h
    · simp at h
    · cases h
theorem bytesV_of {w : World} {a : Option Addr} {len cap : Nat} {zs : List Int} (h : IsRow .u8 w a len cap zs) (hl : len ≤ 300) : BytesV (.slice a len cap) len w := by
  refine ⟨hl, a, cap, rfl, fun k hk => ?_⟩
  rcases h with ⟨_, h, _⟩ | ⟨x, rfl, h1, h2, h3, h4, h5⟩
  · omega
  · have e1 := spot_none (h4 0 (by omega))
    obtain ⟨b, o, s⟩ := x
    obtain rfl : s = none := e1
    have hc := h4 k (by omega)
    rw [Addr.add_mid] at hc
    have hm : zs.getD k 0 ∈ zs := by
      rw [List.getD_eq_getElem?_getD, List.getElem?_eq_getElem (by omega), Option.getD_some]
      exact List.getElem_mem _
    have hw := h5 _ hm
    have hw2 : (0 : Int) ≤ zs.getD k 0 ∧ zs.getD k 0 ≤ 255 := by
      have := hw
      simp only [Lit.wf, Bool.and_eq_true, decide_eq_true_eq] at this
      exact this
    exact ⟨b, o, zs.getD k 0, rfl, World.block_lt_of_cell? w _ hc, hw2.1, hw2.2, hc⟩
theorem few_any (a : Option Addr) (n cap : Nat) (b : Bool) (hb : decide ((n : Int) ≤ 300) = b) (w : World) : Calls Tryz.prog 4 #[.slice a n cap] w fun e w' => e = .returned (.bool b) ∧ w = w' := by
  go_enter Tryz.func4, Tryz.ntmps4
  go_wp2
  go_ret
  exact ⟨rfl, rfl⟩
abbrev docS (ks : Value) : Array Value := sN 1 ⟨#[]⟩ ⟨#[]⟩ 0 ⟨#[]⟩ false ks 0 0
set_option maxHeartbeats 2000000 in
set_option maxRecDepth 100000 in
theorem tree_walk (a0 : Option Addr) (len0 cap0 : Nat) (z0 : List Int) (w : World) (w0 : IsRow .u8 w a0 len0 cap0 z0) :
    Calls Tryz.prog 3 #[.slice a0 len0 cap0] w fun e w' => e = .returned (.bool true) ∧ Below w.heap.size w w' := by
  by_cases h1 : 2147483647 < (len0 : Int)
  · go_enter Tryz.func3, Tryz.ntmps3
    go_wp2
    go_ret
    exact ⟨rfl, Below.refl _ _⟩
  by_cases h2 : (len0 : Int) ≤ 300
  · have HV := hide (built_any _ len0 w (bytesV_of w0 (by omega)))
    clear w0
    go_enter Tryz.func3, Tryz.ntmps3
    go_upto_region 6 with (first | (go_at_call 4; refine (few_any _ _ _ true (decide_eq_true h2) _).mono ?_; rintro e wq ⟨rfl, rfl⟩) | (go_at_call 5; (with_reducible refine HV.out.mono ?_); rintro e w1 ⟨⟨t, ks, n, ps, ys, rfl, hK⟩, hb1⟩; have HK := hide hK; have HB1 := hide hb1; have HSZ : Hid ((docS ks).all (·.oneCell') = true) := hide (by obtain ⟨_, _, _, hr, _⟩ := hK; exact (sn_form hr.sl).2); clear hK hb1) | ((with_reducible refine wpList_store_new ?_ 27 (.tmp 4) (.tmp 15) ?_ w1 _ (docS ks) ?_ ?_ ?_ ?_ HSZ.out ?_); exact rfl; exact rfl; (simp [go_sem]); (simp [go_sem]); exact info_sn10; rfl))
    obtain ⟨ao, kn, kc, rfl⟩ : ∃ (ao : Option Addr) (kn kc : Nat), ks = .slice ao kn kc := by
      obtain ⟨_, _, _, hr, _⟩ := HK.out
      exact hr.sl
    have hB2 : Below w1.heap.size w1 (w1.alloc (.cells (docS (.slice ao kn kc)) 27)).drew := (below1 w1 _).drew
    have hK2 : Kids 10 (SB 4 (w1.alloc (.cells (docS (.slice ao kn kc)) 27)).drew) (w1.alloc (.cells (docS (.slice ao kn kc)) 27)).drew (.slice ao kn kc) n ps ys := HK.out.moved hB2 fun _ _ _ h => h.below hB2
    have hsz : (catY ys n).size ≤ 1000000000000 := by
      obtain ⟨h0, h4, cs, hr, hk⟩ := hK2
      exact Nat.le_trans (cat_le n (m := 1500000000) (fun k h => Nat.le_trans (hk k h).le (SZ_le (by omega)))) (by omega)
    have GD := hide (given_doc 4 (w1.alloc (.cells (docS (.slice ao kn kc)) 27)).drew _ n ps ys hK2)
    have HK2 := hide hK2
    have KO := hide (fun (W : World) (hb : Below (w1.alloc (.cells (docS (.slice ao kn kc)) 27)).drew.heap.size (w1.alloc (.cells (docS (.slice ao kn kc)) 27)).drew W) (q : Nat) => (show W.cell? ⟨w1.heap.size, q, none⟩ = (docS (.slice ao kn kc))[q]? from by
      have e2 : ObjAt W w1.heap.size (docS (.slice ao kn kc)) 27 := (hb.block _ (by rw [show (w1.alloc (.cells (docS (.slice ao kn kc)) 27)).drew.heap.size = w1.heap.size + 1 from World.size_alloc' _ _]; omega)).trans (newB1 w1 _)
      exact e2.cell q))
    have K0 := KO.out _ (Below.refl _ _)
    have HBB := hide (HB1.out.trans (hB2.mono HB1.out.size))
    obtain ⟨Y, hY⟩ : ∃ Y, Y = catY ys n := ⟨_, rfl⟩
    have HY := hide hY
    rw [← hY] at hsz
    clear hK2 hB2 hY
    go_region_held3 (fun w' => ∀ q, w'.cell? ⟨w1.heap.size, q, none⟩ = (docS (.slice ao kn kc))[q]?) (first | exact K0 | exact K1 | exact K2 | exact K3) (first | (go_at_call 7; (with_reducible refine GD.out.mono ?_); rintro e w2 ⟨ks', rfl, hS, hb2⟩; have HB2 := hide hb2; have K1 := KO.out _ hb2; have HO := hide (htmlOf_any 4 w2 ks' n (fun _ => false) ys hS.now (fun _ _ => rfl) (by rw [← HY.out]; exact hsz)); rw [← HY.out] at HO; clear hS hb2) | (go_at_call 6; (with_reducible refine HO.out.mono ?_); rintro e w3 ⟨rfl, hb3⟩; have HB3 := hide (HB2.out.trans (hb3.mono HB2.out.size)); have K2 := KO.out _ HB3.out; have BS := hide (blocksS_any 4 (by omega) (block_S 4 (by omega)) w3 _ n ps ys (HK2.out.moved HB3.out fun _ _ _ h => h.below HB3.out)); rw [← HY.out] at BS; clear hb3) | (go_at_call 8; (with_reducible refine BS.out.mono ?_); rintro e w4 ⟨rfl, hb4⟩; have HB4 := hide (HB3.out.trans (hb4.mono HB3.out.size)); have K3 := KO.out _ HB4.out; clear hb4))
    all_goals
      go_wp2
      go_ret
      exact ⟨ret_bool (by simp), HBB.out.trans (HB4.out.mono HBB.out.size)⟩
  · go_enter Tryz.func3, Tryz.ntmps3
    go_wp2_with (go_at_call 4; refine (few_any _ _ _ false (decide_eq_false h2) _).mono ?_; rintro e wq ⟨rfl, rfl⟩)
    go_ret
    exact ⟨rfl, Below.refl _ _⟩
end Go.Proofs.YtipniinmajoolaaGreatDoor
