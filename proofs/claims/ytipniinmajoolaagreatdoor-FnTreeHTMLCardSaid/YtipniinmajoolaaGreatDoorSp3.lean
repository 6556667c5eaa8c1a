/- The reference's HTML of an inline, of a row of inlines. Conditions: as Inl.ok says. -/
import Derived.Test.YtipniinmajoolaaGreatDoorSp2
import Derived.Lib.QuietBelow
namespace Go.Proofs.YtipniinmajoolaaGreatDoor
open Go.RowKit Go.Sort
theorem inlS_plain (w : World) (x : ByteArray) (ks : Value) (hx : x.size ≤ 100) : Calls Tryz.prog 45 #[.agg (sN 20 x ⟨#[]⟩ 0 ⟨#[]⟩ false ks 0 0)] w fun e w' => e = .returned (.string (escF x x.size)) ∧ Below w.heap.size w w' := by
  have E1 := hide (fun wx => escS_any x wx (by omega))
  go_enter Tryz.func45, Tryz.ntmps45
  go_wp2_with (go_at_call 30; refine (E1.out _).mono ?_; rintro e w' ⟨rfl, rfl⟩)
  go_ret
  exact ⟨rfl, (Below.refl _ _).alloc (Nat.le_refl _) _⟩
theorem kid_one (w : World) (ks : Value) (x : ByteArray) (hx : x.size ≤ 100) (hr : RowN 10 w ks 1 (fun _ => sN 20 x ⟨#[]⟩ 0 ⟨#[]⟩ false (.slice none 0 0) 0 0)) :
    Calls Tryz.prog 28 #[ks] w fun e w' => e = .returned (.string (escF x x.size)) ∧ Below w.heap.size w w' := by
  have h := inlinesS_of w ks 1 600 _ (fun _ => escF x x.size) hr (fun _ _ => rfl) (by decide) (fun _ _ => Nat.le_trans (esc_le x x.size) (by omega)) (fun _ _ wx _ => inlS_plain wx x _ hx)
  refine h.mono ?_
  rintro e w' ⟨rfl, hb⟩
  exact ⟨by rw [catY, catY, ByteArray.empty_append], hb⟩
theorem inlS_any (w : World) (cs : Array Value) (i : Inl) (h : SInl w cs i) (hok : i.ok) : Calls Tryz.prog 45 #[.agg cs] w fun e w' => e = .returned (.string i.h) ∧ Below w.heap.size w w' := by
  obtain ⟨ks, rfl, hr⟩ := h
  obtain ⟨h1, h2, h3⟩ := hok
  cases i with
  | plain x => exact inlS_plain w x ks h1
  | soft =>
    simp only [Inl.k, Inl.t, Inl.h]
    go_enter Tryz.func45, Tryz.ntmps45
    go_wp2
    go_ret
    exact ⟨rfl, (Below.refl _ _).alloc (Nat.le_refl _) _⟩
  | span x =>
    simp only [Inl.k, Inl.t, Inl.h] at h1 ⊢
    have E1 := hide (fun wx => escS_any x wx (by omega))
    have hz := esc_le x x.size
    obtain ⟨X, hX⟩ : ∃ X, X = escF x x.size := ⟨_, rfl⟩
    have hXz : X.size ≤ 600 := by rw [hX]; exact Nat.le_trans hz (by omega)
    have HH : Hid (codeS x = (⟨#[60, 99, 111, 100, 101, 62]⟩ : ByteArray) ++ X ++ (⟨#[60, 47, 99, 111, 100, 101, 62]⟩ : ByteArray)) := hide (by rw [hX]; rfl)
    rw [← hX] at E1
    clear hX hz hr h3
    go_enter Tryz.func45, Tryz.ntmps45
    go_wp2_with (go_at_call 30; refine (E1.out _).mono ?_; rintro e w' ⟨rfl, rfl⟩)
    go_ret
    exact ⟨ret_str HH.out.symm, (Below.refl _ _).alloc (Nat.le_refl _) _⟩
  | emph x =>
    simp only [Inl.k, Inl.t, Inl.h, Inl.x, Inl.n] at h1 h2 hr ⊢
    have E1 := hide (kid_one (w.alloc (.cells (sN 24 ⟨#[]⟩ ⟨#[]⟩ 0 ⟨#[]⟩ false ks 0 0) 27)) ks x h2 (hr.below ((Below.refl _ _).alloc (Nat.le_refl _) _)))
    have hz := esc_le x x.size
    obtain ⟨X, hX⟩ : ∃ X, X = escF x x.size := ⟨_, rfl⟩
    have hXz : X.size ≤ 600 := by rw [hX]; exact Nat.le_trans hz (by omega)
    rw [← hX] at E1 ⊢
    clear hX hz hr h3 h1
    go_enter Tryz.func45, Tryz.ntmps45
    go_wp2_with (go_at_call 28; refine E1.out.mono ?_; rintro e w' ⟨rfl, hb1⟩)
    go_ret
    exact ⟨rfl, ((Below.refl _ _).alloc (Nat.le_refl _) _).trans (hb1.mono (by rw [World.size_alloc']; omega))⟩
  | strong x =>
    simp only [Inl.k, Inl.t, Inl.h, Inl.x, Inl.n] at h1 h2 hr ⊢
    have E1 := hide (kid_one (w.alloc (.cells (sN 25 ⟨#[]⟩ ⟨#[]⟩ 0 ⟨#[]⟩ false ks 0 0) 27)) ks x h2 (hr.below ((Below.refl _ _).alloc (Nat.le_refl _) _)))
    have hz := esc_le x x.size
    obtain ⟨X, hX⟩ : ∃ X, X = escF x x.size := ⟨_, rfl⟩
    have hXz : X.size ≤ 600 := by rw [hX]; exact Nat.le_trans hz (by omega)
    rw [← hX] at E1 ⊢
    clear hX hz hr h3 h1
    go_enter Tryz.func45, Tryz.ntmps45
    go_wp2_with (go_at_call 28; refine E1.out.mono ?_; rintro e w' ⟨rfl, hb1⟩)
    go_ret
    exact ⟨rfl, ((Below.refl _ _).alloc (Nat.le_refl _) _).trans (hb1.mono (by rw [World.size_alloc']; omega))⟩
  | link d x =>
    simp only [Inl.k, Inl.t, Inl.h, Inl.x, Inl.n] at h1 h2 h3 hr ⊢
    have hu : Url d := h3.elim (fun h => absurd h (by decide)) id
    have E1 := hide (fun wx (hb : Below w.heap.size w wx) => kid_one wx ks x h2 (hr.below hb))
    have E2 := hide (fun wx => escURL_any d wx h1 hu)
    have hz := esc_le x x.size
    obtain ⟨X, hX⟩ : ∃ X, X = escF x x.size := ⟨_, rfl⟩
    have hXz : X.size ≤ 600 := by rw [hX]; exact Nat.le_trans hz (by omega)
    rw [← hX] at E1 ⊢
    clear hX hz hr h3 hu
    have KB := newB1 w (.cells (sN 27 d ⟨#[]⟩ 0 ⟨#[]⟩ false ks 0 0) 27)
    have k1 := cell_regrown ((heap_cell KB 1).trans rfl)
    have k2 := cell_regrown ((heap_cell KB 2).trans rfl)
    have k7 := cell_regrown ((heap_cell KB 7).trans rfl)
    have hB0 := (Below.refl w.heap.size w).alloc (Nat.le_refl _) (.cells (sN 27 d ⟨#[]⟩ 0 ⟨#[]⟩ false ks 0 0) 27)
    have hB1 : ∀ dr os, Below w.heap.size w (grow (redrawn (w.alloc (.cells (sN 27 d ⟨#[]⟩ 0 ⟨#[]⟩ false ks 0 0) 27)) dr) os) := fun dr os => hB0.trans ((below_regrown _ dr os).mono hB0.size)
    have HB1 := hide hB1
    have F1 := hide (fun dr os => Calls.regrown_of (E1.out _ (hB1 dr os)))
    have F2 := hide (fun dr os => Calls.regrown_of (w := w.alloc (.cells (sN 27 d ⟨#[]⟩ 0 ⟨#[]⟩ false ks 0 0) 27)) (d := dr) (os := os) ((E2.out _).mono fun _ _ ⟨he, hw⟩ => ⟨he, hw ▸ Below.refl _ _⟩))
    have F3 := hide (fun dr os => Calls.regrown_of (w := w.alloc (.cells (sN 27 d ⟨#[]⟩ 0 ⟨#[]⟩ false ks 0 0) 27)) (d := dr) (os := os) ((titleS_none _).mono fun _ _ ⟨he, hw⟩ => ⟨he, hw ▸ Below.refl _ _⟩))
    clear hB0 hB1 KB E1 E2
    go_enter Tryz.func45, Tryz.ntmps45
    go_wp2_with fail
    refine wp_region_quiet_below (by kernel_rfl) (by kernel_rfl) ?_
    repeat (go_big_quiet_step (first | exact F1.out _ _ | exact F2.out _ _ | exact F3.out _ _))
    refine wpQuiet_nil ?_
    intro _ hw'
    obtain ⟨⟨dq, osq⟩, hw''⟩ := hw'
    subst hw''
    go_wp2
    go_ret
    exact ⟨ret_str (by rw [show (⟨#[]⟩ : ByteArray) = ByteArray.empty from rfl, ByteArray.append_empty]), HB1.out dq osq⟩
theorem inlinesS_any (w : World) (ks : Value) (n : Nat) (is : Nat → Inl) (h : Inls 10 SInl w ks n is) : Calls Tryz.prog 28 #[ks] w fun e w' => e = .returned (.string (catI is n)) ∧ Below w.heap.size w w' := by
  obtain ⟨h1, h2, cs, h3, h4⟩ := h
  refine inlinesS_of w ks n 1000 cs (fun k => (is k).h) h3 (fun k hk => ?_) (by omega) (fun k hk => Inl.h_le (h2 k hk)) (fun k hk wx hb => inlS_any wx _ _ ((h4 k hk).below hb) (h2 k hk))
  obtain ⟨ks', e, _⟩ := h4 k hk
  rw [e]; rfl
theorem RowN.shape {sz : Nat} {w : World} {ks : Value} {n : Nat} {cs : Nat → Array Value} (h : RowN sz w ks n cs) : ∃ (ao : Option Addr) (kn kc : Nat), ks = .slice ao kn kc := by
  rcases h with ⟨_, rfl⟩ | ⟨g, cap, rfl, _⟩
  · exact ⟨_, _, _, rfl⟩
  · exact ⟨_, _, _, rfl⟩
/-- A paragraph, or a block of another kind. -/
theorem SB.kind {d : Nat} {w : World} {cs : Array Value} {p : Option ByteArray} {y : ByteArray} (h : SB d w cs p y) :
    (∃ (ao : Option Addr) (kn kc : Nat) (f o : Int) (n : Nat) (is : Nat → Inl), cs = sN 6 ⟨#[]⟩ ⟨#[]⟩ 0 ⟨#[]⟩ false (.slice ao kn kc) f o ∧ Inls 10 SInl w (.slice ao kn kc) n is ∧ p = some (catI is n) ∧ y = pHTML (catI is n)) ∨
    (p = none ∧ ∃ (k : Int) (t ti : ByteArray) (n : Int) (c : ByteArray) (l : Bool) (ao : Option Addr) (kn kc : Nat) (f o : Int), k ≠ 6 ∧ cs = sN k t ti n c l (.slice ao kn kc) f o) := by
  cases d with
  | zero => exact h.elim
  | succ d =>
    rcases h.2 with ⟨ks, f, o, n, is, rfl, hI, hp, hy⟩ | ⟨ks, f, o, n, hh, is, rfl, _, _, hI, hp, _⟩ | ⟨f, o, rfl, hp, _⟩ | ⟨t, x, f, o, rfl, _, hp, _⟩ | ⟨ks, f, o, n, ps, ys, rfl, ⟨_, _, _, hK, _⟩, hp, _⟩ | ⟨ks, f, o, num, c, l, n, zs, rfl, _, ⟨_, _, _, hK, _⟩, hp, _⟩
    · obtain ⟨cs2, hr, _⟩ := hI.row
      obtain ⟨ao, kn, kc, rfl⟩ := hr.shape
      exact .inl ⟨ao, kn, kc, f, o, n, is, rfl, hI, hp, hy⟩
    · obtain ⟨cs2, hr, _⟩ := hI.row
      obtain ⟨ao, kn, kc, rfl⟩ := hr.shape
      exact .inr ⟨hp, _, _, _, _, _, _, _, _, _, _, _, by decide, rfl⟩
    · exact .inr ⟨hp, _, _, _, _, _, _, _, _, _, _, _, by decide, rfl⟩
    · exact .inr ⟨hp, _, _, _, _, _, _, _, _, _, _, _, by decide, rfl⟩
    · obtain ⟨ao, kn, kc, rfl⟩ := hK.shape
      exact .inr ⟨hp, _, _, _, _, _, _, _, _, _, _, _, by decide, rfl⟩
    · obtain ⟨ao, kn, kc, rfl⟩ := hK.shape
      exact .inr ⟨hp, _, _, _, _, _, _, _, _, _, _, _, by decide, rfl⟩
theorem SB.size {d : Nat} {w : World} {cs : Array Value} {p : Option ByteArray} {y : ByteArray} (h : SB d w cs p y) : cs.size = 10 := by
  rcases h.kind with ⟨_, _, _, _, _, _, _, rfl, _⟩ | ⟨_, _, _, _, _, _, _, _, _, _, _, _, _, _, rfl⟩ <;> rfl
theorem SB.le {d : Nat} {w : World} {cs : Array Value} {p : Option ByteArray} {y : ByteArray} (h : SB d w cs p y) : y.size ≤ SZ d := by
  cases d with
  | zero => exact h.elim
  | succ d => exact Nat.le_trans h.1 (by rw [SZ_succ]; omega)
end Go.Proofs.YtipniinmajoolaaGreatDoor
