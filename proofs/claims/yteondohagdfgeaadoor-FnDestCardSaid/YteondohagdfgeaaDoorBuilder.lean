/- Contracts of strings.Builder's methods at a cut whose copyCheck has a refused panic branch, over the kit's Lib.BuilderAt. Conditions: the sum of the lengths is at most 2^47. -/
import Derived.Test.YteondohagdfgeaaDoorProg
import Derived.Test.YteondohagdfgeaaDoorBase
import Derived.Lib.Builder
import Derived.Lib.AppendStr
import Derived.Lib.UnsafeStr
namespace Go.Proofs.YteondohagdfgeaaDoor
open Go.RowKit
set_option maxHeartbeats 1000000 in
set_option maxRecDepth 100000 in
theorem copyCheck_used (b : Nat) (w : World) (h0 : w.cell? ⟨b, 0, none⟩ = some (.pointer (some ⟨b, 0, none⟩))) :
    Calls Tryd.prog 39 #[.pointer (some ⟨b, 0, none⟩)] w fun e w' => e = .returned (.tuple #[]) ∧ w' = w := by
  obtain ⟨j, hj⟩ : ∃ j, Tryd.prog.info? 41 = some j := Option.isSome_iff_exists.1 (by kernel_rfl)
  go_enter Tryd.func39, Tryd.ntmps39
  go_wp2
  rw [Lib.run_neq_ptr_same w _ Tryd.underlying38 hj]
  go_wp2
  go_end0
  exact ⟨rfl, rfl⟩
set_option maxHeartbeats 1000000 in
set_option maxRecDepth 100000 in
theorem copyCheck_fresh (b : Nat) (w : World) (h0 : w.cell? ⟨b, 0, none⟩ = some (.pointer none)) (hsh : w.shape? b = some (41, 2)) (hfz : w.frozen? ⟨b, 0, none⟩ = false) :
    Calls Tryd.prog 39 #[.pointer (some ⟨b, 0, none⟩)] w fun e w' => e = .returned (.tuple #[]) ∧ w' = w.setCell ⟨b, 0, none⟩ (.pointer (some ⟨b, 0, none⟩)) := by
  obtain ⟨j, hj⟩ : ∃ j, Tryd.prog.info? 41 = some j := Option.isSome_iff_exists.1 (by kernel_rfl)
  have hz : (Tryd.prog.info? 41).map (·.size) = some 2 := by kernel_rfl
  have hjs : j.size = 2 := by rw [hj] at hz; simpa using hz
  go_enter Tryd.func39, Tryd.ntmps39
  go_wp2
  rw [Lib.run_to_unsafe w ⟨b, 0, none⟩ Tryd.underlying38 Tryd.underlying53 hj (by rw [hjs]; decide) hsh (Nat.zero_lt_succ 1)]
  simp only [Result.andThen]
  rw [Oper.upon_value]
  go_wp2
  rw [run_callFunc_extern Tryd.func40 (by kernel_rfl) (by kernel_rfl) (by kernel_rfl) (e := Extern.AbiNoEscape.same) (by kernel_rfl)]
  rw [Lib.run_noEscape]
  simp only [Result.andThen]
  rw [Oper.upon_value]
  go_wp2
  rw [Lib.run_from_unsafe w ⟨b, 0, none⟩ Tryd.underlying53 Tryd.underlying38 hj hsh (by kernel_rfl)]
  simp only [Result.andThen]
  rw [Oper.upon_value]
  go_wp2
  go_end0
  exact ⟨rfl, rfl⟩
theorem copyCheck_any (B b : Nat) (bs : List Value) (w : World) (h : Lib.IsBuilder 41 5 B b bs w) :
    Calls Tryd.prog 39 #[.pointer (some ⟨b, 0, none⟩)] w fun e w' => e = .returned (.tuple #[]) ∧ (Lib.BuilderAt 41 5 B b (.pointer (some ⟨b, 0, none⟩)) bs w' ∧ Below B w w' ∧ w'.heap.size = w.heap.size) := by
  rcases h with h | h
  · refine (copyCheck_fresh b w h.cell0 h.shape h.frozen0).mono ?_
    rintro e w' ⟨rfl, rfl⟩
    exact ⟨rfl, h.used _, (Below.refl B w).setCell (p := ⟨b, 0, none⟩) h.1 _, by simp⟩
  · refine (copyCheck_used b w h.cell0).mono ?_
    rintro e w' ⟨rfl, rfl⟩
    exact ⟨rfl, h, Below.refl B _, rfl⟩
theorem info_u8b : (Tryd.prog.info? 5).map (fun i => (i.zero, i.size, i.bytes)) = some (some (.int .u8 0), 1, 1) := by kernel_rfl
set_option maxHeartbeats 2000000 in
set_option maxRecDepth 100000 in
theorem writeByte_any (B b : Nat) (bs : List Value) (c : Int) (w : World) (h : Lib.IsBuilder 41 5 B b bs w) (hlen : bs.length + 1 ≤ 140737488355328) (hBw : B ≤ w.heap.size) :
    Calls Tryd.prog 35 #[.pointer (some ⟨b, 0, none⟩), .int .u8 c] w fun e w' => e = .returned .nilIface ∧ (Lib.BuilderAt 41 5 B b (.pointer (some ⟨b, 0, none⟩)) (bs ++ [.int .u8 c]) w' ∧ Below B w w') := by
  obtain ⟨i0, hi0, hz0, hz1, hz2⟩ := info_parts info_u8b
  go_enter Tryd.func35, Tryd.ntmps35
  go_wp2_with (go_at_call 39; refine (copyCheck_any B b bs _ h).mono ?_)
  rintro e w1 ⟨rfl, ⟨hB, v, hbk, hown, hne⟩, hb1, -⟩
  have c0 : w1.cell? ⟨b, 0, none⟩ = some (.pointer (some ⟨b, 0, none⟩)) := (Lib.cell_of_heap hbk 0).trans rfl
  have c1 : w1.cell? ⟨b, 1, none⟩ = some v := (Lib.cell_of_heap hbk 1).trans rfl
  go_wp2_with (at_builtin; refine wpList_append_own _ rfl _ _ 39 rfl B 5 i0 (.int .u8 0) 1 1 Tryd.underlying39 hi0 hz0 hz1 hz2 rfl (by decide) _ _ _ rfl (hown.alloc _) ⟨w1.heap.size, 0, none⟩ 1 1 [.int .u8 c] rfl rfl (cellOne _ _ _) ?c2 ?c3 ?c4 ?c5 ?_)
  case c2 => simp [Value.oneCell']
  case c3 => unfold maxLen; omega
  case c4 => omega
  case c5 => have := hb1.size; simp; omega
  intro v' w2 hown' hgrow _
  have hlt : b < w1.heap.size := Lib.BuilderAt.lt ⟨hB, v, hbk, hown, hne⟩
  have hb2 : w2.heap[b]? = some (.cells #[.pointer (some ⟨b, 0, none⟩), v] 41 (0, 0)) := by
    rw [hgrow.block b (by simp; omega) (fun e => hne e.symm), Lib.alloc_old w1 _ b hlt]
    exact hbk
  have d0 : w2.cell? ⟨b, 0, none⟩ = some (.pointer (some ⟨b, 0, none⟩)) := (Lib.cell_of_heap hb2 0).trans rfl
  have d1 : w2.cell? ⟨b, 1, none⟩ = some v := (Lib.cell_of_heap hb2 1).trans rfl
  have f1 : w2.frozen? ⟨b, 1, none⟩ = false := Lib.frozen_of_heap hb2 1
  obtain ⟨g, cap, rfl⟩ : ∃ g cap, v' = .slice (some ⟨g, 0, none⟩) (bs.length + 1) cap := by
    rcases hown'.2 with ⟨_, x0⟩ | ⟨g, cap, cur, hv, _⟩
    · omega
    · exact ⟨g, cap, hv⟩
  go_wp2
  go_ret
  refine ⟨rfl, ?_, ?_⟩
  · exact Lib.BuilderAt.put hB hb2 (bs' := bs ++ [.int .u8 c]) (by simpa using hown') (by decide)
  · exact ((hb1.alloc (by have := hb1.size; omega) _).grown hgrow (by have := hb1.size; simp; omega) (fun k hk => (hown.lt k hk).1)).setCell (p := ⟨b, 1, none⟩) hB _
set_option maxHeartbeats 2000000 in
set_option maxRecDepth 100000 in
theorem writeString_any (B b : Nat) (bs : List Value) (s : ByteArray) (w : World) (h : Lib.IsBuilder 41 5 B b bs w) (hlen : bs.length + s.size ≤ 140737488355328) (hBw : B ≤ w.heap.size) :
    Calls Tryd.prog 37 #[.pointer (some ⟨b, 0, none⟩), .string s] w fun e w' => e = .returned (.tuple #[.int .i64 s.size, .nilIface]) ∧ (Lib.BuilderAt 41 5 B b (.pointer (some ⟨b, 0, none⟩)) (bs ++ Lib.strCells s) w' ∧ Below B w w') := by
  obtain ⟨i0, hi0, hz0, hz1, hz2⟩ := info_parts info_u8b
  go_enter Tryd.func37, Tryd.ntmps37
  go_wp2_with (go_at_call 39; refine (copyCheck_any B b bs _ h).mono ?_)
  rintro e w1 ⟨rfl, ⟨hB, v, hbk, hown, hne⟩, hb1, -⟩
  have c0 : w1.cell? ⟨b, 0, none⟩ = some (.pointer (some ⟨b, 0, none⟩)) := (Lib.cell_of_heap hbk 0).trans rfl
  have c1 : w1.cell? ⟨b, 1, none⟩ = some v := (Lib.cell_of_heap hbk 1).trans rfl
  go_wp2_with (at_builtin; refine Lib.wpList_append_own_string _ rfl _ _ 39 9 rfl B 5 i0 Tryd.underlying39 Tryd.underlying9 hi0 hz0 hz1 hz2 _ _ _ rfl hown s rfl ?c3 ?c4 ?c5 ?_)
  case c3 => unfold maxLen; omega
  case c4 => omega
  case c5 => have := hb1.size; omega
  intro v' w2 hown' hgrow _
  have hlt : b < w1.heap.size := Lib.BuilderAt.lt ⟨hB, v, hbk, hown, hne⟩
  have hb2 : w2.heap[b]? = some (.cells #[.pointer (some ⟨b, 0, none⟩), v] 41 (0, 0)) := by
    rw [hgrow.block b hlt (fun e => hne e.symm)]
    exact hbk
  have d0 : w2.cell? ⟨b, 0, none⟩ = some (.pointer (some ⟨b, 0, none⟩)) := (Lib.cell_of_heap hb2 0).trans rfl
  have d1 : w2.cell? ⟨b, 1, none⟩ = some v := (Lib.cell_of_heap hb2 1).trans rfl
  have f1 : w2.frozen? ⟨b, 1, none⟩ = false := Lib.frozen_of_heap hb2 1
  obtain ⟨ao, n', cap, rfl⟩ : ∃ ao n' cap, v' = .slice ao n' cap := by
    rcases hown'.2 with ⟨hv, _⟩ | ⟨g, cap, cur, hv, _⟩
    · exact ⟨_, _, _, hv⟩
    · exact ⟨_, _, _, hv⟩
  go_wp2
  go_ret2
  refine ⟨rfl, ?_, ?_⟩
  · exact Lib.BuilderAt.put hB hb2 (bs' := bs ++ Lib.strCells s) (by simpa [Lib.strCells_length] using hown') (by decide)
  · exact (hb1.grown hgrow (by have := hb1.size; omega) (fun k hk => (hown.lt k hk).1)).setCell (p := ⟨b, 1, none⟩) hB _
theorem cells_u8b : Tryd.prog.cellsOf 5 = 1 := by kernel_rfl
set_option maxHeartbeats 2000000 in
set_option maxRecDepth 100000 in
theorem builderString_any (B b : Nat) (l : List UInt8) (w : World) (h : Lib.IsBuilder 41 5 B b (Lib.byteCells l) w) (h0 : l ≠ []) :
    Calls Tryd.prog 38 #[.pointer (some ⟨b, 0, none⟩)] w fun e w' => e = .returned (.string ⟨l.toArray⟩) ∧ Below B w w' := by
  obtain ⟨p, hB, v, hbk, hown, hne⟩ : ∃ p, Lib.BuilderAt 41 5 B b p (Lib.byteCells l) w := by
    rcases h with h | h
    · exact ⟨_, h⟩
    · exact ⟨_, h⟩
  have hl0 : l.length ≠ 0 := by simpa using h0
  rw [Lib.byteCells_length] at hown
  obtain ⟨g, cap, cur, rfl, hbg, hg, hnc, hcm, hcs, htake⟩ : ∃ g cap cur, v = .slice (some ⟨g, 0, none⟩) l.length cap ∧ B ≤ g ∧ w.heap[g]? = some (.cells cur 5 (0, 0)) ∧ l.length ≤ cap ∧ cap ≤ maxLen ∧ cur.size = cap * 1 ∧ cur.toList.take (l.length * 1) = Lib.byteCells l := by
    rcases hown.2 with ⟨_, hz⟩ | ⟨g, cap, cur, hv, r⟩
    · exact absurd hz hl0
    · exact ⟨g, cap, cur, hv, r⟩
  have c1 : w.drew.cell? ⟨b, 1, none⟩ = some (.slice (some ⟨g, 0, none⟩) l.length cap) := by
    have : w.drew.heap[b]? = some (.cells #[p, .slice (some ⟨g, 0, none⟩) l.length cap] 41 (0, 0)) := hbk
    rw [Lib.cell_of_heap this]; rfl
  have hSD : (Builtin.unsafeSliceData_ #[39] 52 #[.slice (some ⟨g, 0, none⟩) l.length cap]).run Tryd.prog w.drew = .ok (.pointer (some ⟨g, 0, none⟩)) w.drew :=
    Lib.run_unsafeSliceData_row _ _ _ _ _ _ (by omega)
  have hUS : (Builtin.unsafeString_ #[52, 3] 9 #[.pointer (some ⟨g, 0, none⟩), .int .i64 l.length]).run Tryd.prog w.drew = .ok (.string ⟨l.toArray⟩) (w.drew.freeze ⟨g, 0, none⟩ l.length) := by
    refine Lib.run_unsafeString_row w.drew 52 3 9 5 Tryd.underlying52 cells_u8b g cur.size (by have hg' : w.drew.heap[g]? = some (.cells cur 5 (0, 0)) := hg; simp [World.shape?, hg']) l h0 (by omega) (by unfold maxLen at hcm; omega) ?_
    intro j x hx
    have := hown.cells (g := g) rfl j (.int .u8 x.toNat) (by simp [Lib.byteCells, hx])
    exact this
  go_enter Tryd.func38, Tryd.ntmps38
  go_wp2
  go_region
  all_goals (go_wp2; go_ret; exact ⟨rfl, Lib.below_freeze (Below.drew (Below.refl B w)) (p := ⟨g, 0, none⟩) hbg _⟩)
/-! The same, in texts. -/
/-- The builder holds the text. -/
def HoldsB (B b : Nat) (t : ByteArray) (w : World) : Prop := Lib.IsBuilder 41 5 B b (Lib.strCells t) w
theorem strCells_app (s t : ByteArray) : Lib.strCells (s ++ t) = Lib.strCells s ++ Lib.strCells t := by
  unfold Lib.strCells; simp [ByteArray.data_append]
theorem strCells_one (s : ByteArray) {k : Nat} (h : k < s.size) : Lib.strCells (s.extract k (k + 1)) = [.int .u8 (bt s k)] := by
  have hz : (s.extract k (k + 1)).size = 1 := by rw [ByteArray.size_extract]; omega
  have h0 := bt_list (s.extract k (k + 1)) (k := 0) (by omega)
  rw [bt_extract s k (k + 1) 0 (by omega) (by omega), Nat.add_zero] at h0
  have hl : (s.extract k (k + 1)).data.toList.length = 1 := hz
  match hm : (s.extract k (k + 1)).data.toList, hl with
  | [x], _ =>
    rw [hm] at h0
    have hx : x = UInt8.ofNat (bt s k).toNat := by simpa using h0
    unfold Lib.strCells
    rw [hm, hx]
    have h1 := bt_nonneg s k
    have h2 := bt_le s k
    simp only [List.map_cons, List.map_nil, UInt8.toNat_ofNat', List.cons.injEq, and_true, Value.int.injEq, true_and]
    omega
theorem holdsB_fresh (w : World) : HoldsB w.heap.size w.heap.size ByteArray.empty (w.alloc (.cells #[.pointer none, .slice none 0 0] 41)) := Lib.fresh_isBuilder _ _ _
theorem writeByte_holds (B b : Nat) (t s : ByteArray) (k : Nat) (w : World) (h : HoldsB B b t w) (hk : k < s.size) (hlen : t.size + 1 ≤ 140737488355328) (hBw : B ≤ w.heap.size) :
    Calls Tryd.prog 35 #[.pointer (some ⟨b, 0, none⟩), .int .u8 (bt s k)] w fun e w' => e = .returned .nilIface ∧ HoldsB B b (t ++ s.extract k (k + 1)) w' ∧ Below B w w' := by
  refine (writeByte_any B b _ (bt s k) w h (by rw [Lib.strCells_length]; exact hlen) hBw).mono fun e w' h => ⟨h.1, ?_, h.2.2⟩
  unfold HoldsB
  rw [strCells_app, strCells_one s hk]
  exact .inr h.2.1
theorem writeString_holds (B b : Nat) (t s : ByteArray) (w : World) (h : HoldsB B b t w) (hlen : t.size + s.size ≤ 140737488355328) (hBw : B ≤ w.heap.size) :
    Calls Tryd.prog 37 #[.pointer (some ⟨b, 0, none⟩), .string s] w fun e w' => e = .returned (.tuple #[.int .i64 s.size, .nilIface]) ∧ HoldsB B b (t ++ s) w' ∧ Below B w w' := by
  refine (writeString_any B b _ s w h (by rw [Lib.strCells_length]; exact hlen) hBw).mono fun e w' h => ⟨h.1, ?_, h.2.2⟩
  unfold HoldsB
  rw [strCells_app]
  exact .inr h.2.1
theorem string_holds (B b : Nat) (t : ByteArray) (w : World) (h : HoldsB B b t w) (h0 : 0 < t.size) :
    Calls Tryd.prog 38 #[.pointer (some ⟨b, 0, none⟩)] w fun e w' => e = .returned (.string t) ∧ Below B w w' := by
  have hne : t.data.toList ≠ [] := by
    intro e
    have : t.data.toList.length = 0 := by rw [e]; rfl
    have hz : t.data.toList.length = t.size := rfl
    omega
  exact builderString_any B b t.data.toList w h hne
end Go.Proofs.YteondohagdfgeaaDoor
