/- Nodes of blocks turned into the package's blocks: what stands beneath; rows of kids; impl.built at quotations; items. Conditions: as each states them. -/
import Derived.Test.YtipniinmajoolaaGreatDoorBuB1
import Derived.Test.YtipniinmajoolaaGreatDoorIm1
import Derived.Deep.RegionHeld3
namespace Go.Proofs.YtipniinmajoolaaGreatDoor
open Go.RowKit
theorem in_one {k : Int} {t ti : ByteArray} {n : Int} {c : ByteArray} {l : Bool} {ks : Value} {m : ByteArray} {wd : Int} {tg : Bool} (h : ∃ (ao : Option Addr) (kn kc : Nat), ks = .slice ao kn kc) : (iN k t ti n c l ks m wd tg).size = 16 ∧ (iN k t ti n c l ks m wd tg).all (·.oneCell') = true := by
  obtain ⟨ao, kn, kc, rfl⟩ := h
  exact ⟨rfl, by simp [Value.oneCell']⟩
theorem inls_shp {w : World} {ks : Value} {n : Nat} {is : Nat → Inl} (h : Inls 16 IInl w ks n is) : ∃ (ao : Option Addr) (kn kc : Nat), ks = .slice ao kn kc := by
  obtain ⟨cs, hr, _⟩ := h.row
  exact hr.shp
theorem kids_shp {R : Array Value → Bool → ByteArray → Prop} {w : World} {ks : Value} {n : Nat} {ts : Nat → Bool} {ys : Nat → ByteArray} (h : KidsI 16 R w ks n ts ys) : ∃ (ao : Option Addr) (kn kc : Nat), ks = .slice ao kn kc := by
  obtain ⟨_, _, cs, hr, _⟩ := h
  exact hr.shp
theorem ib_form : ∀ {d : Nat} {w : World} {cs : Array Value} {t : Bool} {y : ByteArray}, IB d w cs t y → cs.size = 16 ∧ cs.all (·.oneCell') = true
  | 0, _, _, _, _, h => h.elim
  | d + 1, w, cs, t, y, h => by
    rcases h with ⟨ks, n, is, rfl, h1, _⟩ | ⟨ks, n, hh, is, rfl, _, _, h1, _⟩ | ⟨rfl, _⟩ | ⟨ti, x, rfl, _⟩ | ⟨ks, n, ts, ys, rfl, h1, _⟩ | ⟨ks, num, c, l, n, zs, rfl, _, h1, _⟩
    · exact in_one (inls_shp h1)
    · exact in_one (inls_shp h1)
    · exact in_one ⟨_, _, _, rfl⟩
    · exact in_one ⟨_, _, _, rfl⟩
    · exact in_one (kids_shp h1)
    · exact in_one (kids_shp h1)
/-- impl.built at the blocks of the depth. -/
def BuiltD (d : Nat) : Prop := ∀ (w : World) (cs : Array Value) (t : Bool) (y : ByteArray), IB d w cs t y → Calls Tryz.prog 12 #[.agg cs] w (BuiltP t y w)
/-- What impl.list gives of kids. -/
def KidsP (n : Nat) (ts : Nat → Bool) (ys : Nat → ByteArray) (w : World) (e : Ending) (w' : World) : Prop :=
  ∃ (g cap : Nat) (vs : Nat → Value), e = .returned (.slice (some ⟨g, 0, none⟩) n cap) ∧ Held (fun w2 => RowIs 46 w2 (.slice (some ⟨g, 0, none⟩) n cap) n vs ∧ ∀ k, k < n → PrK w2 (vs k) (ts k) (ys k)) w' w.heap.size w'.heap.size ∧ Below w.heap.size w w'
theorem list_kids {d : Nat} (IH : BuiltD d) (w : World) (ks : Value) (n : Nat) (ts : Nat → Bool) (ys : Nat → ByteArray) (hK : KidsI 16 (IB d w) w ks n ts ys) : Calls Tryz.prog 17 #[ks] w (KidsP n ts ys w) := by
  obtain ⟨h0, h4, cs, hr, hk⟩ := hK
  rcases hr with ⟨h, _⟩ | ⟨r, cap0, rfl, _, _, _, hlt, hc⟩
  · omega
  refine (blkrow_of r n cap0 cs (fun k v w2 => PrK w2 v (ts k) (ys k)) w (by omega) h0 hc hlt (fun k hl => ib_form (hk k hl)) (fun k hl W hb => IH W _ _ _ ((hk k hl).below hb))).mono ?_
  rintro e w' ⟨g, cap, vs, rfl, h1, h2, h3, h5⟩
  exact ⟨g, cap, vs, rfl, h3.mono fun w2 h => ⟨⟨_, _, rfl, by omega, fun _ => ⟨g, rfl, h.1⟩⟩, h.2⟩, h5⟩
theorem KidsI.belowB {d : Nat} {w w' : World} {ks : Value} {n : Nat} {ts : Nat → Bool} {ys : Nat → ByteArray} (h : KidsI 16 (IB d w) w ks n ts ys) (hb : Below w.heap.size w w') : KidsI 16 (IB d w') w' ks n ts ys := h.moved hb fun _ _ _ h => h.below hb
set_option maxHeartbeats 2000000 in
set_option maxRecDepth 100000 in
theorem built_quote (d : Nat) (IH : BuiltD d) (w : World) (ks : Value) (n : Nat) (ts : Nat → Bool) (ys : Nat → ByteArray) (hK : KidsI 16 (IB d w) w ks n ts ys) (ht : ∀ k, k < n → ts k = false) :
    Calls Tryz.prog 12 #[.agg (iN 2 ⟨#[]⟩ ⟨#[]⟩ 0 ⟨#[]⟩ false ks ⟨#[]⟩ 0 false)] w (BuiltP false (qHTML (catY ys n)) w) := by
  obtain ⟨ao, kn, kc, rfl⟩ := kids_shp hK
  have LK := hide (list_kids IH (boxed2 w (iN 2 ⟨#[]⟩ ⟨#[]⟩ 0 ⟨#[]⟩ false (.slice ao kn kc) ⟨#[]⟩ 0 false)).drew _ n ts ys (hK.belowB (below2 w _ _).drew))
  have HT := hide ht
  clear hK ht
  have K0 : (∀ j, (boxed2 w (iN 2 ⟨#[]⟩ ⟨#[]⟩ 0 ⟨#[]⟩ false (.slice ao kn kc) ⟨#[]⟩ 0 false)).drew.cell? ⟨w.heap.size, j, none⟩ = (iN 2 ⟨#[]⟩ ⟨#[]⟩ 0 ⟨#[]⟩ false (.slice ao kn kc) ⟨#[]⟩ 0 false)[j]?) ∧ ∀ j, (boxed2 w (iN 2 ⟨#[]⟩ ⟨#[]⟩ 0 ⟨#[]⟩ false (.slice ao kn kc) ⟨#[]⟩ 0 false)).drew.cell? ⟨w.heap.size + 1, j, none⟩ = posV[j]? := cells2 (w := w) (nd := iN 2 ⟨#[]⟩ ⟨#[]⟩ 0 ⟨#[]⟩ false (.slice ao kn kc) ⟨#[]⟩ 0 false) (Below.refl _ _).drew
  go_enter Tryz.func12, Tryz.ntmps12
  go_wp2
  go_region_held3 (fun w' => (∀ j, w'.cell? ⟨w.heap.size, j, none⟩ = (iN 2 ⟨#[]⟩ ⟨#[]⟩ 0 ⟨#[]⟩ false (.slice ao kn kc) ⟨#[]⟩ 0 false)[j]?) ∧ ∀ j, w'.cell? ⟨w.heap.size + 1, j, none⟩ = posV[j]?) (first | exact K0 | exact K1 | exact K3 _) (first | (go_at_call 17; (with_reducible refine LK.out.mono ?_); rintro e w1 ⟨g1, cap1, vs, rfl, hH, hb1⟩; have HH := hide hH; have HB := hide hb1; have K1 := cells2 (w := w) (nd := iN 2 ⟨#[]⟩ ⟨#[]⟩ 0 ⟨#[]⟩ false (.slice ao kn kc) ⟨#[]⟩ 0 false) (ofDrew hb1); have K3 := fun o => cells2 (w := w) (nd := iN 2 ⟨#[]⟩ ⟨#[]⟩ 0 ⟨#[]⟩ false (.slice ao kn kc) ⟨#[]⟩ 0 false) (w1 := w1.alloc o) ((ofDrew hb1).alloc hb1.size o); clear hH hb1))
  all_goals
    go_wp2
    go_ret
    have hs := HB.out.size
    have hs0 : (boxed2 w (iN 2 ⟨#[]⟩ ⟨#[]⟩ 0 ⟨#[]⟩ false (.slice ao kn kc) ⟨#[]⟩ 0 false)).drew.heap.size = w.heap.size + 2 := size_boxed2 _ _
    rw [hs0] at hs
    exact ⟨68, w1.heap.size, rfl, (held_box (w := w) (w1 := w1) (HH.out.wide (Nat.le_refl _) (Nat.le_refl _)) (by rw [hs0]; omega) #[.int .i64 0, .int .i64 0, .slice (some ⟨g1, 0, none⟩) n cap1] 70 (by omega)).mono fun w2 hh => ⟨_, _, _, rfl, disp_Quote, fun h => absurd h (by decide), fun _ => ⟨by decide, EndLf.app _ ⟨by decide, by decide⟩⟩, quote_prints w2 _ 0 0 _ n vs ys hh.1 hh.2.1 (fun k hk => by have := hh.2.2 k hk; rwa [HT.out k hk] at this)⟩, below_boxed2 (w := w) (nd := iN 2 ⟨#[]⟩ ⟨#[]⟩ 0 ⟨#[]⟩ false (.slice ao kn kc) ⟨#[]⟩ 0 false) (ofDrew HB.out) _⟩
end Go.Proofs.YtipniinmajoolaaGreatDoor
