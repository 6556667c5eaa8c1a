/- A text cut into lines: strings.Lines and its function, impl.cut. Conditions: a text of at most 100 bytes that ends with a line feed. -/
import Derived.Test.YtipniinmajoolaaGreatDoorBuD
import Derived.Test.YtipniinmajoolaaGreatDoorBl1
namespace Go.Proofs.YtipniinmajoolaaGreatDoor
open Go.RowKit Go.Shelf
attribute [local go_sem] Oper.semAt_some
/-- The length of the text in the box. -/
def boxLen (Bs : Nat) (w : World) : Nat := match w.cell? ⟨Bs, 0, none⟩ with
  | some (.string s) => s.size
  | _ => 0
theorem boxLen_eq {Bs : Nat} {w : World} {s : ByteArray} (h : w.cell? ⟨Bs, 0, none⟩ = some (.string s)) : boxLen Bs w = s.size := by unfold boxLen; rw [h]
theorem obj_free {w : World} {g : Nat} {cs : Array Value} {T : TypeId} (h : ObjAt w g cs T) (j : Nat) : w.frozen? ⟨g, j, none⟩ = false := by
  unfold ObjAt at h; simp [World.frozen?, h]
theorem app_nil' (s : ByteArray) : s ++ (⟨#[]⟩ : ByteArray) = s := ByteArray.append_empty
set_option maxRecDepth 100000 in
set_option maxHeartbeats 2000000 in
theorem lines_seq (Bs : Nat) (x : ByteArray) (w : World) (hBs : Bs < w.heap.size) (hb : ObjAt w Bs #[.string x] 9) (hx : x.size ≤ 100) (hl : LineEnd x) :
    BoxSeq Fence.wide 2 Tryz.prog 53 #[ptr Bs] (fun L : ByteArray => #[.string (L ++ lfB)]) (fun L => L.size ≤ 100) Bs 100 (fun xs => catL xs = x) w := by
  intro l J W hW hJ hY h0
  have hb' : ObjAt W Bs #[.string x] 9 := hb.below hW hBs
  have hc0 := hb'.cell 0
  refine callsIn_of_wp Tryz.func53 rfl trivial ?_ rfl
  simp only [Tryz.ntmps53, List.size_toArray, List.length_cons, List.length_nil, Nat.reduceAdd, Nat.reduceSub, Array.replicate_succ, Array.replicate_zero, List.push_toArray, List.append_toArray, List.nil_append, List.cons_append]
  gi_wp2
  gi_loopw [3] (fun _ wr => ∃ (pre : List ByteArray) (rest : ByteArray), Hid (Rest x pre rest) ∧ Hid (ObjAt wr Bs #[.string rest] 9) ∧ J pre wr ∧ Hid (pre.length + rest.size ≤ 100)) (fun _ wr => boxLen Bs wr)
  case atStart => exact ⟨[], x, hide ⟨ByteArray.empty_append, hl⟩, hide hb', h0, hide (by simpa using hx)⟩
  case round =>
    clear hc0 h0
    obtain ⟨pre, rest, HR, HO, hJs, HN⟩ := hrel
    have hc := (HO.out.cell 0).trans (show _ = some (Value.string rest) from rfl)
    have hfz := obj_free HO.out 0
    by_cases hz : rest.size = 0
    · obtain rfl : rest = ⟨#[]⟩ := ext_bt (by rw [hz]; rfl) (fun k hk => by omega)
      gi_wp2
      go_end0
      exact ⟨⟨_, rfl⟩, pre, (by have := HR.out.e; rwa [app_nil'] at this), hJs⟩
    · have hpos : 0 < rest.size := by omega
      have hposI : decide (((rest.size : Nat) : Int) > 0) = true := by rw [decide_eq_true_iff]; omega
      have hE : EndLf rest := ⟨hpos, by rcases HR.out.l with h | h; (exact absurd h hz); exact h⟩
      obtain ⟨k, hk1, hk2, hk3⟩ := find_lf hE
      have IB := hide (Tryz.strings_IndexByte rest 10 wr)
      rw [hk1] at IB
      have hkI : decide ((k : Int) ≥ 0) = true := by rw [decide_eq_true_iff]; omega
      have hsz := HN.out
      gi_wp2_with (refine ⟨trivial, ?_⟩; gi_at_call 54; refine (callsIn_wide.2 IB.out).mono ?_; rintro e w2 ⟨rfl, rfl⟩)
      have hwr : IntKind.i64.wrap ((k : Int) + 1) = ((k + 1 : Nat) : Int) := by simp only [IntKind.wrap_i64]; omega
      gi_region
      have hg : w2.grownBy (w2.setCell ⟨Bs, 0, none⟩ (.string (rest.extract (k + 1) rest.size))).drew (some Bs) := by
        have h := grown_setCell w2 Bs 0 (.string (rest.extract (k + 1) rest.size))
        exact ⟨h.os, h.tape, h.output, h.size, h.block⟩
      have HO2 : Hid (ObjAt (w2.setCell ⟨Bs, 0, none⟩ (.string (rest.extract (k + 1) rest.size))).drew Bs #[.string (rest.extract (k + 1) rest.size)] 9) := hide (by
        have h := heap_setCell_same w2 Bs 0 _ _ (.string (rest.extract (k + 1) rest.size)) HO.out
        exact h)
      have hJ2 := hJ _ _ _ _ hJs hg (fun q e => (Option.some.inj e).symm)
      obtain ⟨fn, tmps, assign, body, hy, hR⟩ := hY pre (rest.extract 0 k) _ hJ2 (by omega) (by show _ ≤ 100; rw [ByteArray.size_extract]; omega)
      rw [← ext_cut hk2 hk3] at hy
      have HR2 := hide (HR.out.next hk2 hk3)
      have hsz2 : (rest.extract (k + 1) rest.size).size = rest.size - (k + 1) := by rw [ByteArray.size_extract]; omega
      have HM := hide (boxLen_eq hc)
      clear hc hfz hwr IB hg hJ2 hJs hk1
      obtain ⟨W3, hW3⟩ : ∃ W3, W3 = (w2.setCell ⟨Bs, 0, none⟩ (.string (rest.extract (k + 1) rest.size))).drew := ⟨_, rfl⟩
      rw [← hW3] at hy HO2 hR ⊢
      have HW3 := hide hW3
      clear hW3
      gi_wp2
      refine hR.mono ?_
      rintro e W4 ⟨rfl, hJ4, hB4⟩
      gi_wp2
      go_roundw
      case rel => exact ⟨pre ++ [rest.extract 0 k], rest.extract (k + 1) rest.size, HR2, hide (ObjAt.same HO2.out hB4), hJ4, hide (by rw [List.length_append, hsz2]; simp; omega)⟩
      case measure => rw [boxLen_eq (((ObjAt.same HO2.out hB4).cell 0).trans (show _ = some (Value.string (rest.extract (k + 1) rest.size)) from rfl)), HM.out, hsz2]; omega
theorem linesF_any (s : ByteArray) (w : World) : Calls Tryz.prog 42 #[.string s] w fun e w' => e = .returned (.func (.func 53) #[] #[ptr w.heap.size]) ∧ w.alloc (.cells #[.string s] 9) = w' := by
  go_enter Tryz.func42, Tryz.ntmps42
  go_wp2
  go_ret
  exact ⟨rfl, rfl⟩
end Go.Proofs.YtipniinmajoolaaGreatDoor
