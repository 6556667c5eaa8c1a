/- Escaping a text for HTML, as the package does it: the contract of the escapes of a text. Conditions: texts of at most 1000000 bytes. -/
import Derived.Test.YtipniinmajoolaaGreatDoorBuf
namespace Go.Proofs.YtipniinmajoolaaGreatDoor
open Go.RowKit
theorem pairs_old {g : Nat} {w : World} (h : PairsAt g w) (o : Obj) : PairsAt g (w.alloc o) := by
  have hlt : g < w.heap.size := (Array.getElem?_eq_some_iff.1 h).1
  exact (Lib.alloc_old w o g hlt).trans h
theorem pairs_lt {g : Nat} {w : World} (h : PairsAt g w) : g < w.heap.size := (Array.getElem?_eq_some_iff.1 h).1
set_option maxHeartbeats 1000000 in
theorem replaceU_any (g : Nat) (s : ByteArray) (w : World) (hP : PairsAt g w) (hs : s.size ≤ 1000000) :
    Calls Tryz.prog 113 #[.slice (some ⟨g, 0, none⟩) 8 8, .string s] w fun e w' => e = .returned (.string (escF s s.size)) ∧ Below w.heap.size w w' := by
  have hg := pairs_lt hP
  have W := hide (zzWrite_any w.heap.size w.heap.size g ByteArray.empty s (w.alloc (.cells #[.slice none 0 0, .int .i64 0, .int .i8 0] 55)) (holdsU_fresh w) (by simp) (by omega) (pairs_old hP _) hs (by simp))
  clear hP
  go_enter Tryz.func113, Tryz.ntmps113
  go_wp2_with (first | (go_at_call 116; refine W.out.mono ?_; rintro e w1 ⟨rfl, hH1, hb1, ho1⟩; rw [ByteArray.empty_append] at hH1) | (go_at_call 16; refine (stringU _ _ _ _ hH1).mono ?_; rintro e w2 ⟨rfl, n2, rfl⟩))
  go_ret
  exact ⟨rfl, by exact below_drewN (((Below.refl _ _).alloc (Nat.le_refl _) _).trans hb1) n2⟩
theorem htmlEscaper_any (w : World) : Calls Tryz.prog 125 #[] w fun e w' => e = .returned (.slice (some ⟨w.heap.size, 0, none⟩) 8 8) ∧ w.alloc (.cells pairsV 9) = w' := by
  go_enter Tryz.func125, Tryz.ntmps125
  go_wp2
  go_ret
  exact ⟨rfl, rfl⟩
theorem pairs_new (w : World) : PairsAt w.heap.size (w.alloc (.cells pairsV 9)) := heap_alloc_new w _
end Go.Proofs.YtipniinmajoolaaGreatDoor
