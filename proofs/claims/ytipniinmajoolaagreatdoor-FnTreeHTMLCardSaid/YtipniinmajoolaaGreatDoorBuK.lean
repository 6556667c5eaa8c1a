/- Nodes of blocks turned into the package's blocks: impl.built by steps of the depth; documents. Conditions: as each states them. -/
import Derived.Test.YtipniinmajoolaaGreatDoorBuJ
import Derived.Test.YtipniinmajoolaaGreatDoorBuG
import Derived.Test.YtipniinmajoolaaGreatDoorBuB3
namespace Go.Proofs.YtipniinmajoolaaGreatDoor
open Go.RowKit
theorem built_list (d : Nat) (IH : BuiltD d) (w : World) (ks : Value) (num : Int) (c : ByteArray) (l : Bool) (n : Nat) (zs : Nat → ByteArray) (hm : markOk num c) (hK : KidsI 16 (fun cs _ y => IItem (IB d w) w cs y) w ks n (fun _ => false) zs) :
    Calls Tryz.prog 12 #[.agg (iN 3 ⟨#[]⟩ ⟨#[]⟩ num c l ks ⟨#[]⟩ 0 false)] w (BuiltP false (lHTML num (catY zs n)) w) := by
  obtain ⟨h0, h4, kcs, hr, hk⟩ := hK
  rcases hr with ⟨h, _⟩ | ⟨r, cap, rfl, _, _, _, hlt, hc⟩
  · omega
  rcases hm with ⟨rfl, rfl | rfl⟩ | ⟨h1, h2, rfl | rfl⟩
  · exact built_list_of d IH w r n cap (-1) 45 l zs kcs 0 (by decide) (by decide) (by omega) (by decide) (.inl ⟨by decide, by decide, by decide⟩) h0 h4 hlt hc hk
  · exact built_list_of d IH w r n cap (-1) 43 l zs kcs 0 (by decide) (by decide) (by omega) (by decide) (.inl ⟨by decide, by decide, by decide⟩) h0 h4 hlt hc hk
  · exact built_list_of d IH w r n cap num 46 l zs kcs num.toNat (by decide) (by omega) (by omega) rfl (.inr ⟨decide_eq_false (by omega), .inl (by decide)⟩) h0 h4 hlt hc hk
  · exact built_list_of d IH w r n cap num 41 l zs kcs num.toNat (by decide) (by omega) (by omega) rfl (.inr ⟨decide_eq_false (by omega), .inr ⟨by decide, by decide⟩⟩) h0 h4 hlt hc hk
theorem built_D : ∀ d, BuiltD d
  | 0 => fun _ _ _ _ h => h.elim
  | d + 1 => by
    have IH := built_D d
    intro w cs t y h
    rcases h with ⟨ks, n, is, rfl, h1, rfl⟩ | ⟨ks, n, hh, is, rfl, _, h6, h1, rfl, rfl⟩ | ⟨rfl, rfl, rfl⟩ | ⟨ti, x, rfl, h1, rfl, rfl⟩ | ⟨ks, n, ts, ys, rfl, h1, h2, rfl, rfl⟩ | ⟨ks, num, c, l, n, zs, rfl, hm, h1, rfl, rfl⟩
    · cases t with
      | true => exact built_tight w ks n is h1
      | false => exact built_para w ks n is h1
    · exact built_heading w ks n hh is h6 h1
    · exact built_break w _
    · exact built_code w ti x h1
    · exact built_quote d IH w ks n ts ys h1 h2
    · exact built_list d IH w ks num c l n zs hm h1
theorem links_nil (w : World) : Calls Tryz.prog 18 #[.slice none 0 0] w fun e w' => (∃ g : Nat, e = .returned (.map (some g))) ∧ Below w.heap.size w w' := by
  have hmm := @run_makeMap Tryz.prog
  go_enter Tryz.func18, Tryz.ntmps18
  go_wp2
  go_loop [9] (fun kv => kv = .int .i64 0) (fun _ => 0)
  case atStart => exact rfl
  case round =>
    obtain rfl := hrel
    go_wp2
    go_ret
    exact ⟨⟨_, rfl⟩, below1 _ _⟩
theorem cat_end (ys : Nat → ByteArray) {n : Nat} (h0 : 0 < n) (h : ∀ k, k < n → EndLf (ys k)) : EndLf (catY ys n) := by
  obtain ⟨m, rfl⟩ : ∃ m, n = m + 1 := ⟨n - 1, by omega⟩
  rw [catY]
  exact EndLf.app _ (h m (by omega))
set_option maxHeartbeats 2000000 in
set_option maxRecDepth 100000 in
theorem built_doc (d : Nat) (IH : BuiltD d) (w : World) (ks : Value) (n : Nat) (ts : Nat → Bool) (ys : Nat → ByteArray) (hK : KidsI 16 (IB d w) w ks n ts ys) (ht : ∀ k, k < n → ts k = false) :
    Calls Tryz.prog 12 #[.agg (iN 1 ⟨#[]⟩ ⟨#[]⟩ 0 ⟨#[]⟩ false ks ⟨#[]⟩ 0 false)] w (BuiltP false (catY ys n) w) := by
  obtain ⟨ao, kn, kc, rfl⟩ := kids_shp hK
  have h0 := hK.1
  have LK := hide (list_kids IH (boxed2 w (iN 1 ⟨#[]⟩ ⟨#[]⟩ 0 ⟨#[]⟩ false (.slice ao kn kc) ⟨#[]⟩ 0 false)).drew _ n ts ys (hK.belowB (below2 w _ _).drew))
  have HT := hide ht
  clear hK ht
  have K0 : (∀ j, (boxed2 w (iN 1 ⟨#[]⟩ ⟨#[]⟩ 0 ⟨#[]⟩ false (.slice ao kn kc) ⟨#[]⟩ 0 false)).drew.cell? ⟨w.heap.size, j, none⟩ = (iN 1 ⟨#[]⟩ ⟨#[]⟩ 0 ⟨#[]⟩ false (.slice ao kn kc) ⟨#[]⟩ 0 false)[j]?) ∧ ∀ j, (boxed2 w (iN 1 ⟨#[]⟩ ⟨#[]⟩ 0 ⟨#[]⟩ false (.slice ao kn kc) ⟨#[]⟩ 0 false)).drew.cell? ⟨w.heap.size + 1, j, none⟩ = posV[j]? := cells2 (w := w) (nd := (iN 1 ⟨#[]⟩ ⟨#[]⟩ 0 ⟨#[]⟩ false (.slice ao kn kc) ⟨#[]⟩ 0 false)) (Below.refl _ _).drew
  go_enter Tryz.func12, Tryz.ntmps12
  go_wp2
  go_region_held3 (fun w' => (∀ j, w'.cell? ⟨w.heap.size, j, none⟩ = (iN 1 ⟨#[]⟩ ⟨#[]⟩ 0 ⟨#[]⟩ false (.slice ao kn kc) ⟨#[]⟩ 0 false)[j]?) ∧ ∀ j, w'.cell? ⟨w.heap.size + 1, j, none⟩ = posV[j]?) (first | exact K0 | exact K1 | exact K4 | exact K3 _) (first | (go_at_call 17; (with_reducible refine LK.out.mono ?_); rintro e w1 ⟨g1, cap1, vs, rfl, hH, hb1⟩; have HH := hide hH; have HB := hide hb1; have K1 := cells2 (w := w) (nd := (iN 1 ⟨#[]⟩ ⟨#[]⟩ 0 ⟨#[]⟩ false (.slice ao kn kc) ⟨#[]⟩ 0 false)) (ofDrew hb1); clear hH hb1) | (go_at_call 18; (with_reducible refine (links_nil _).mono ?_); rintro e w5 ⟨⟨gm, rfl⟩, hb5⟩; have HB5 := hide hb5; have hb6 := (ofDrew HB.out).trans (hb5.mono HB.out.size); have K4 := cells2 (w := w) (nd := (iN 1 ⟨#[]⟩ ⟨#[]⟩ 0 ⟨#[]⟩ false (.slice ao kn kc) ⟨#[]⟩ 0 false)) hb6; have K3 := fun o => cells2 (w := w) (nd := (iN 1 ⟨#[]⟩ ⟨#[]⟩ 0 ⟨#[]⟩ false (.slice ao kn kc) ⟨#[]⟩ 0 false)) (w1 := w5.alloc o) (hb6.alloc hb6.size o); have HB6 := hide hb6; clear hb5 hb6))
  all_goals
    go_wp2
    go_ret
    have hs0 : (boxed2 w (iN 1 ⟨#[]⟩ ⟨#[]⟩ 0 ⟨#[]⟩ false (.slice ao kn kc) ⟨#[]⟩ 0 false)).heap.size = w.heap.size + 2 := size_boxed2 _ _
    have hs := HB6.out.size
    have hs1 := (ofDrew HB.out).size
    rw [hs0] at hs hs1
    have HH5 : Held _ w5 (boxed2 w (iN 1 ⟨#[]⟩ ⟨#[]⟩ 0 ⟨#[]⟩ false (.slice ao kn kc) ⟨#[]⟩ 0 false)).drew.heap.size w5.heap.size := (HH.out.on (w2 := w5) (fun j _ b => HB5.out.block j b)).wide (Nat.le_refl _) HB5.out.size
    exact ⟨61, w5.heap.size, rfl, (held_box (w := w) (w1 := w5) HH5 (Nat.le_of_lt (Nat.lt_of_lt_of_le (by omega) (Nat.le_of_eq hs0.symm))) #[.int .i64 0, .int .i64 0, .slice (some ⟨g1, 0, none⟩) n cap1, .map (some gm)] 67 (by omega)).mono fun w2 hh => ⟨_, _, _, rfl, disp_Document, fun h => absurd h (by decide), fun _ => ⟨by decide, cat_end ys h0 fun k hk => by
        obtain ⟨_, _, _, _, _, _, hE, _⟩ := hh.2.2 k hk
        exact (hE (HT.out k hk)).2⟩, doc_prints w2 _ 0 0 _ _ n vs ys hh.1 hh.2.1 (fun k hk => by have := hh.2.2 k hk; rwa [HT.out k hk] at this)⟩, below_boxed2 (w := w) (nd := (iN 1 ⟨#[]⟩ ⟨#[]⟩ 0 ⟨#[]⟩ false (.slice ao kn kc) ⟨#[]⟩ 0 false)) HB6.out _⟩
end Go.Proofs.YtipniinmajoolaaGreatDoor
