/- What plain texts and code spans write into a bytes.Buffer as HTML, and what the package's ZZInlineHTML gives of a row of such. Conditions: sizes, as each states them. -/
import Derived.Test.YtipniinmajoolaaGreatDoorEscU
import Derived.Deep.RegionWith
import Derived.Lib.BufferOld
namespace Go.Proofs.YtipniinmajoolaaGreatDoor
open Go.RowKit
theorem HoldsU.alloc {B b : Nat} {t : ByteArray} {w : World} (h : HoldsU B b t w) (o : Obj) : HoldsU B b t (w.alloc o) := Lib.IsBuffer.alloc h o
theorem HoldsU.lt {B b : Nat} {t : ByteArray} {w : World} (h : HoldsU B b t w) : b < w.heap.size := Lib.IsBuffer.lt h
/-- What a print does to the world. -/
def Wrote (B b : Nat) (t y : ByteArray) (w w' : World) : Prop := HoldsU B b (t ++ y) w' ∧ Below B w w' ∧ Lib.OthersKept 5 (some b) w w'
/-- A struct's block. -/
def ObjAt (w : World) (g : Nat) (cs : Array Value) (T : TypeId) : Prop := w.heap[g]? = some (.cells cs T (0, 0))
theorem HoldsU.ne {B b g : Nat} {t : ByteArray} {cs : Array Value} {T : TypeId} {w : World} (h : HoldsU B b t w) (hg : ObjAt w g cs T) (hT : T ≠ 55) : g ≠ b := by
  rintro rfl
  obtain ⟨_, v, lr, hb, _⟩ := h
  unfold ObjAt at hg
  rw [hb] at hg
  have := Option.some.inj hg
  injection this with _ e2 _
  exact hT e2.symm
theorem ObjAt.kept {B b g : Nat} {t : ByteArray} {cs : Array Value} {T : TypeId} {w w' : World} (hg : ObjAt w g cs T) (h : HoldsU B b t w) (hk : Lib.OthersKept 5 (some b) w w') (hT : T ≠ 55) (hT2 : T ≠ 5) : ObjAt w' g cs T :=
  hk g _ hg (fun e => h.ne hg hT (Option.some.inj e)) (fun c fz e => by injection e with _ e2 _; exact hT2 e2)
theorem ObjAt.cell {w : World} {g : Nat} {cs : Array Value} {T : TypeId} (h : ObjAt w g cs T) (j : Nat) : w.cell? ⟨g, j, none⟩ = cs[j]? := by
  unfold ObjAt at h; simp [World.cell?, h]
theorem ObjAt.lt {w : World} {g : Nat} {cs : Array Value} {T : TypeId} (h : ObjAt w g cs T) : g < w.heap.size := (Array.getElem?_eq_some_iff.1 h).1
theorem ObjAt.below {w w' : World} {g B : Nat} {cs : Array Value} {T : TypeId} (h : ObjAt w g cs T) (hb : Below B w w') (hg : g < B) : ObjAt w' g cs T := by
  unfold ObjAt at h ⊢; rw [hb.block g hg]; exact h
theorem ObjAt.same {w w' : World} {g : Nat} {cs : Array Value} {T : TypeId} (h : ObjAt w g cs T) (hb : w'.heap[g]? = w.heap[g]?) : ObjAt w' g cs T := hb.trans h
abbrev ptr (g : Nat) : Value := .pointer (some ⟨g, 0, none⟩)
set_option maxHeartbeats 1000000 in
set_option maxRecDepth 100000 in
theorem PlainHTML_any (B b g : Nat) (t x : ByteArray) (w : World) (h : HoldsU B b t w) (hB : B ≤ w.heap.size) (hx : x.size ≤ 1000000) (ht : t.size ≤ 100000000000000) (hc : w.cell? ⟨g, 0, none⟩ = some (.string x)) (hg : g < w.heap.size) :
    Calls Tryz.prog 185 #[.pointer (some ⟨g, 0, none⟩), .pointer (some ⟨b, 0, none⟩)] w fun e w' => e = .returned (.tuple #[]) ∧ Wrote B b t (escF x x.size) w w' := by
  have hlt := h.lt
  have W := hide (zzWrite_any B b w.heap.size t x (w.alloc (.cells pairsV 9)).drew (h.alloc _) (by simp; omega) (by omega) (pairs_new w) hx ht)
  clear h
  go_enter Tryz.func185, Tryz.ntmps185
  go_wp2
  go_region_with (first | (go_at_call 125; refine (htmlEscaper_any _).mono ?_; rintro e w' ⟨rfl, rfl⟩) | (go_at_call 116; refine W.out.mono ?_; rintro e w1 ⟨rfl, hH1, hb1, ho1⟩))
  all_goals
    go_end0
    exact ⟨rfl, hH1, (((Below.refl B w).alloc hB _).drew).trans hb1, Lib.OthersKept.trans (((Lib.OthersKept.refl _ _ w).alloc _).drew) ho1⟩
/-- The HTML of a code span. -/
def codeS (x : ByteArray) : ByteArray := (⟨#[60, 99, 111, 100, 101, 62]⟩ : ByteArray) ++ escF x x.size ++ (⟨#[60, 47, 99, 111, 100, 101, 62]⟩ : ByteArray)
theorem code_le (x : ByteArray) : (codeS x).size ≤ 6 * x.size + 13 := by
  have := esc_le x x.size
  unfold codeS
  rw [ByteArray.size_append, ByteArray.size_append]
  have e1 : (⟨#[60, 99, 111, 100, 101, 62]⟩ : ByteArray).size = 6 := rfl
  have e2 : (⟨#[60, 47, 99, 111, 100, 101, 62]⟩ : ByteArray).size = 7 := rfl
  omega
theorem others_old {e : TypeId} {ob : Option Nat} {w w' : World} (h : Below w.heap.size w w') : Lib.OthersKept e ob w w' := fun k o hk _ _ => by
  rw [h.block k (Array.getElem?_eq_some_iff.1 hk).1]; exact hk
set_option maxHeartbeats 1000000 in
set_option maxRecDepth 100000 in
theorem CodeHTML_any (B b g : Nat) (t x : ByteArray) (w : World) (h : HoldsU B b t w) (hB : B ≤ w.heap.size) (hx : x.size ≤ 1000000) (ht : t.size ≤ 100000000000000) (hc : w.cell? ⟨g, 0, none⟩ = some (.string x)) (hg : g < w.heap.size) :
    Calls Tryz.prog 149 #[.pointer (some ⟨g, 0, none⟩), .pointer (some ⟨b, 0, none⟩)] w fun e w' => e = .returned (.tuple #[]) ∧ Wrote B b t (codeS x) w w' := by
  have hlt := h.lt
  have H0 := hide h
  have hel := esc_le x x.size
  have hcl := code_le x
  have R := hide (replaceU_any w.heap.size x (w.alloc (.cells pairsV 9)).drew (pairs_new w) hx)
  have W := hide (fun (w1 : World) (hb1 : Below (w.alloc (.cells pairsV 9)).drew.heap.size (w.alloc (.cells pairsV 9)).drew w1) => writeU_string B b t (codeS x) w1 (Lib.IsBuffer.old (w := (w.alloc (.cells pairsV 9)).drew) (h.alloc (.cells pairsV 9)) hb1) (by omega) (by have := hb1.size; simp at this; omega))
  clear h
  go_enter Tryz.func149, Tryz.ntmps149
  go_wp2
  go_region_with (first | (go_at_call 125; refine (htmlEscaper_any _).mono ?_; rintro e w' ⟨rfl, rfl⟩) | (go_at_call 113; refine R.out.mono ?_; rintro e w1 ⟨rfl, hb1⟩) | (go_at_call 88; refine (W.out _ hb1).mono ?_; rintro e w2 ⟨rfl, hH2, hb2, ho2⟩))
  all_goals
    go_end0
    exact ⟨rfl, hH2, ((((Below.refl B w).alloc hB _).drew).trans (hb1.mono (by simp; omega))).trans hb2, (Lib.OthersKept.trans (((Lib.OthersKept.refl _ _ w).alloc _).drew) (others_old hb1)).trans ho2⟩
end Go.Proofs.YtipniinmajoolaaGreatDoor
