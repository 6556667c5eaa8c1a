/- Nodes turned into inlines: written, put. Conditions: as each states them. -/
import Derived.Test.YtipniinmajoolaaGreatDoorMrg2
import Derived.Deep.MidRow
import Derived.Deep.WholeRow
import Derived.Deep.AppendLies
namespace Go.Proofs.YtipniinmajoolaaGreatDoor
open Go.RowKit
theorem World.size_alloc' (w : World) (o : Obj) : (w.alloc o).heap.size = w.heap.size + 1 := by simp
theorem own_below {w w' : World} {B base : Nat} {e : TypeId} {size n : Nat} {v : Value} {xs : List Value} (h : w.ownsRow base e size v n xs) (hb : Below B w w') (hlt : ∀ g, v.ownBlock = some g → g < B) : w'.ownsRow base e size v n xs := by
  obtain ⟨h1, h2⟩ := h
  refine ⟨h1, ?_⟩
  rcases h2 with h2 | ⟨g, cap, cur, hv, hg, hh, r⟩
  · exact .inl h2
  · exact .inr ⟨g, cap, cur, hv, hg, by rw [hb.block g (hlt g (by rw [hv]; rfl))]; exact hh, r⟩
section
variable {P : Program}
theorem wpList_store_new {ops : Array Oper} {rest : List Oper} {op : Oper} {a : Act} {Q : Exit → Act → World → Prop} (hgd : op.guard = none) (ty : TypeId) (x y : Operand) (ho : op.op = .store ty x y) (w : World) (c c' : Array Value)
    (hx : a.eval x = .pointer (some ⟨w.heap.size, 0, none⟩)) (hy : a.eval y = .agg c') (hi : (P.info? ty).map (·.size) = some c'.size) (hs : c.size = c'.size) (h1 : c'.all (·.oneCell') = true)
    (h : wpList P ops Q rest (a.put op.dst undef) (w.alloc (.cells c' ty))) : wpList P ops Q (op :: rest) a (w.alloc (.cells c ty)) :=
  wpList_plain hgd fun K hK => by
    unfold Oper.wp execOp
    simp only [ho, hx, hy, Instr.storeAt, Instr.sureAddr, Sem.run_bind, Sem.run_pure, Result.andThen_ok, run_storeVar_new w ty c c' hi hs h1]
    exact hK _ _ h
theorem wpList_load_new {ops : Array Oper} {rest : List Oper} {op : Oper} {a : Act} {Q : Exit → Act → World → Prop} (hgd : op.guard = none) (ty : TypeId) (x : Operand) (ho : op.op = .load ty x) (w : World) (c : Array Value) (d : TypeDesc)
    (hx : a.eval x = .pointer (some ⟨w.heap.size, 0, none⟩)) (hu : P.underlying ty = some d) (hd : d.isRow = true) (hi : (P.info? ty).map (·.size) = some c.size)
    (h : wpList P ops Q rest (a.put op.dst (.agg c)) (w.alloc (.cells c ty))) : wpList P ops Q (op :: rest) a (w.alloc (.cells c ty)) := by
  refine wpList_load_mid hgd ty x ho w.heap.size 0 hx c.toList d ?_ hu hd (by simpa using hi) (by simpa using h)
  have := World.rangeAt_of_block (w := w.alloc (.cells c ty)) (b := w.heap.size) (heap_alloc_new w _) 0 c.size
  simpa using this
end
theorem info_node : (Tryz.prog.info? 34).map (·.size) = some 16 := by kernel_rfl
theorem info_inl : (Tryz.prog.info? 141).map (fun i => (i.zero, i.size, i.bytes)) = some (some .nilIface, 1, 16) := by kernel_rfl
/-- It holds in every world that agrees on the blocks from lo to hi. -/
def Held (I : World → Prop) (w : World) (lo hi : Nat) : Prop := ∀ w2 : World, (∀ j, lo ≤ j → j < hi → w2.heap[j]? = w.heap[j]?) → I w2
theorem Held.on {I : World → Prop} {w w2 : World} {lo hi : Nat} (h : Held I w lo hi) (hw : ∀ j, lo ≤ j → j < hi → w2.heap[j]? = w.heap[j]?) : Held I w2 lo hi :=
  fun w3 h3 => h w3 fun j a b => (h3 j a b).trans (hw j a b)
theorem Held.wide {I : World → Prop} {w : World} {lo hi lo' hi' : Nat} (h : Held I w lo hi) (h1 : lo' ≤ lo) (h2 : hi ≤ hi') : Held I w lo' hi' :=
  fun w3 h3 => h w3 fun j a b => h3 j (by omega) (by omega)
theorem Held.now {I : World → Prop} {w : World} {lo hi : Nat} (h : Held I w lo hi) : I w := h w fun _ _ _ => rfl
/-- What put gives of a node. -/
def PutP (I : Value → World → Prop) (w : World) (e : Ending) (w' : World) : Prop := ∃ (T : TypeId) (g : Nat), e = .returned (.iface T (ptr g)) ∧ Held (I (.iface T (ptr g))) w' w.heap.size w'.heap.size ∧ Below w.heap.size w w'
def WrittenP (I : Nat → Value → World → Prop) (n : Nat) (w : World) (e : Ending) (w' : World) : Prop := ∃ (g cap : Nat) (vs : Nat → Value), e = .returned (.slice (some ⟨g, 0, none⟩) n cap) ∧ n ≤ cap ∧ cap ≤ 9223372036854775807 ∧
  Held (fun w2 => RowP w2 g n vs ∧ ∀ k, k < n → I k (vs k) w2) w' w.heap.size w'.heap.size ∧ Below w.heap.size w w'
def Entries (I : Nat → Value → World → Prop) (B : Nat) (ov : Value) (vs : List Value) (w : World) : Prop := ∀ k u, vs[k]? = some u → ∃ lo hi, Held (I k u) w lo hi ∧ B ≤ lo ∧ hi ≤ w.heap.size ∧ ∀ g, ov.ownBlock = some g → g < lo ∨ hi ≤ g
theorem entries_step {I : Nat → Value → World → Prop} {B : Nat} {ov v : Value} {vs : List Value} {wr w1 w2 : World} {g cap n : Nat} {nd cs : Array Value} {tn te : TypeId} (hE : Entries I B ov vs wr) (hB : B ≤ wr.heap.size) (hov : ∀ g, ov.ownBlock = some g → g < wr.heap.size)
    (hb1 : Below (wr.alloc (.cells nd tn)).heap.size (wr.alloc (.cells nd tn)) w1) (hQ : Held (I vs.length v) w1 (wr.alloc (.cells nd tn)).heap.size w1.heap.size)
    (hg : (w1.alloc (.cells cs te)).grownBy w2 ov.ownBlock) (hat : ov.ownBlock = some g ∨ g = (w1.alloc (.cells cs te)).heap.size) : Entries I B (.slice (some ⟨g, 0, none⟩) n cap) (vs ++ [v]) w2 := by
  have q1 := hb1.size
  rw [World.size_alloc'] at q1
  have q2 := hg.size
  rw [World.size_alloc'] at q2 hat
  have old : ∀ j, j < w1.heap.size → some j ≠ ov.ownBlock → w2.heap[j]? = w1.heap[j]? := fun j a b => by
    rw [hg.block j (by rw [World.size_alloc']; omega) b]; exact Below.heap_alloc _ _ _ a
  have older : ∀ j, j < wr.heap.size → w1.heap[j]? = wr.heap[j]? := fun j a => by
    rw [hb1.block j (by rw [World.size_alloc']; omega)]; exact Below.heap_alloc _ _ _ a
  have own : ∀ g', Value.ownBlock (.slice (some ⟨g, 0, none⟩) n cap) = some g' → g' = g := fun g' h => by simpa [Value.ownBlock] using h.symm
  intro k u hk
  by_cases hl : k < vs.length
  · rw [List.getElem?_append_left hl] at hk
    obtain ⟨lo, hi, h1, h2, h3, h4⟩ := hE k u hk
    refine ⟨lo, hi, h1.on fun j a b => ?_, h2, by omega, fun g' hg' => ?_⟩
    · rw [old j (by omega) (fun e => by rcases h4 j e.symm with h | h <;> omega), older j (by omega)]
    · rw [own g' hg']
      rcases hat with h | h
      · exact h4 g h
      · right; omega
  · have hk' : k = vs.length := by
      have := (List.getElem?_eq_some_iff.1 hk).1
      simp at this; omega
    subst hk'
    have hu : u = v := by simpa using hk.symm
    subst hu
    refine ⟨_, _, hQ.on fun j a b => ?_, by rw [World.size_alloc']; omega, by omega, fun g' hg' => ?_⟩
    · rw [World.size_alloc'] at a
      exact old j b (fun e => by have := hov j e.symm; omega)
    · rw [own g' hg', World.size_alloc']
      rcases hat with h | h
      · left; have := hov g h; omega
      · right; omega
theorem written_nil (w : World) : Calls Tryz.prog 41 #[.slice none 0 0] w fun e w' => e = .returned (.slice none 0 0) ∧ w = w' := by
  go_enter Tryz.func41, Tryz.ntmps41
  go_wp2
  go_loop [3, 8] (fun ov kv => ov = .slice none 0 0 ∧ kv = .int .i64 0) (fun _ _ => 0)
  case atStart => exact ⟨rfl, rfl⟩
  case round =>
    obtain ⟨rfl, rfl⟩ := hrel
    go_wp2
    go_ret
    exact ⟨rfl, rfl⟩
theorem written_end {I : Nat → Value → World → Prop} {n : Nat} {ov : Value} {vs : List Value} {w wr : World} (hn : 0 < n) (hvl : vs.length = n) (hown : wr.ownsRow w.heap.size 141 1 ov n vs) (hBe : Below w.heap.size w wr) (hV : Entries I w.heap.size ov vs wr) : WrittenP I n w (.returned ov) wr := by
  rcases hown.2 with ⟨_, h0⟩ | ⟨g, cap, cur, rfl, hbg, hg, hnc, hcm, hcs, htake⟩
  · omega
  · have hlt : g < wr.heap.size := (Array.getElem?_eq_some_iff.1 hg).1
    refine ⟨g, cap, fun k => vs.getD k .nilIface, rfl, hnc, by unfold maxLen at hcm; omega, fun w2 hw => ⟨⟨cur, ?_, fun k hk => ?_⟩, fun k hk => ?_⟩, hBe⟩
    · show w2.heap[g]? = _
      rw [hw g hbg hlt]; exact hg
    · have h1 : vs[k]? = some (vs.getD k .nilIface) := by rw [List.getD_eq_getElem?_getD, List.getElem?_eq_getElem (by omega), Option.getD_some]
      have h2 : cur[k]? = vs[k]? := by rw [← htake, Nat.mul_one, List.getElem?_take_of_lt hk, Array.getElem?_toList]
      exact h2.trans h1
    · have h1 : vs[k]? = some (vs.getD k .nilIface) := by rw [List.getD_eq_getElem?_getD, List.getElem?_eq_getElem (by omega), Option.getD_some]
      obtain ⟨lo, hi, q1, q2, q3, _⟩ := hV k _ h1
      exact (q1.wide q2 q3) w2 hw
set_option maxHeartbeats 2000000 in
set_option maxRecDepth 100000 in
theorem written_of (r n cap : Nat) (nd : Nat → Array Value) (I : Nat → Value → World → Prop) (w : World) (hn : n ≤ 1000) (hn0 : 0 < n) (hr : ∀ k, k < n → w.rangeAt r (k * 16) (nd k).toList) (hlt : r < w.heap.size) (hz : ∀ k, k < n → (nd k).size = 16 ∧ (nd k).all (·.oneCell') = true)
    (hp : ∀ k, k < n → ∀ W, Below w.heap.size w W → Calls Tryz.prog 52 #[.agg (nd k)] W (PutP (I k) W)) :
    Calls Tryz.prog 41 #[.slice (some ⟨r, 0, none⟩) n cap] w (WrittenP I n w) := by
  obtain ⟨i0, hi0, hz0, hz1, hz2⟩ := info_parts info_inl
  have hr := hide hr
  have hz := hide hz
  have hp := hide hp
  go_enter Tryz.func41, Tryz.ntmps41
  go_wp2
  go_loopw [3, 8] (fun ov kv wr => ∃ (m : Nat) (vs : List Value), m ≤ n ∧ kv = .int .i64 m ∧ Hid (vs.length = m) ∧ wr.ownsRow w.heap.size 141 1 ov m vs ∧ Below w.heap.size w wr ∧ Hid (Entries I w.heap.size ov vs wr)) (fun _ kv _ => n - (intOf kv).toNat)
  case atStart => exact ⟨0, [], by omega, rfl, rfl, World.ownsRow_nil _ _ _ _, Below.refl _ _, fun k u h => by simp at h⟩
  case round =>
    obtain ⟨m, vs, hm, rfl, hvl, hown, hBe, hV⟩ := hrel
    by_cases hl : m < n
    · have hlI : (m : Int) < (n : Int) := by omega
      have hcell : wr.rangeAt r (m * 16) (nd m).toList := fun j v hv => by
        rw [hBe.cell (p := ⟨r, m * 16 + j, none⟩) hlt]; exact hr.out m hl j v hv
      obtain ⟨hz16, hone⟩ := hz.out m hl
      have hsz : (Tryz.prog.info? 34).map (·.size) = some (nd m).size := by rw [hz16]; exact info_node
      have hszl : (Tryz.prog.info? 34).map (·.size) = some (nd m).toList.length := by rw [Array.length_toList]; exact hsz
      have hW1 : Below w.heap.size w (wr.alloc (.cells (nd m) 34)) := hBe.alloc hBe.size _
      have C := hide (hp.out m hl _ hW1)
      have HC := hide hcell
      have HZ := hide hsz
      have HZL := hide hszl
      have H16 := hide hz16
      have H1 := hide hone
      clear hcell hsz hszl hz16 hone
      go_wp2_with (first | (refine wpList_load_mid rfl 34 (.tmp 10) rfl r (m * 16) rfl (nd m).toList _ HC.out Tryz.underlying34 rfl HZL.out ?_) | (refine wpList_store_new rfl 34 (.tmp 5) (.tmp 11) rfl wr _ (nd m) rfl rfl HZ.out (by rw [H16.out]; rfl) H1.out ?_) | (refine wpList_load_new rfl 34 (.tmp 5) rfl wr (nd m) _ rfl Tryz.underlying34 rfl HZ.out ?_) | (go_at_call 52; refine C.out.mono ?_; rintro e w1 ⟨tv, gv, rfl, hQ1, hb1⟩; have hq1 := hb1.size; rw [World.size_alloc'] at hq1; have hown1 := own_below (hown.alloc (.cells (nd m) 34)) hb1 (fun g hg => by have := (hown.lt g hg).2; rw [World.size_alloc']; omega)) | (at_builtin; refine wpList_append_lies _ rfl (.tmp 12) (.tmp 15) 113 rfl w.heap.size 141 i0 .nilIface 1 16 Tryz.underlying113 hi0 hz0 hz1 hz2 rfl (by decide) _ m vs rfl (hown1.alloc _) ⟨w1.heap.size, 0, none⟩ 1 1 [.iface tv (ptr gv)] rfl rfl (cellOne _ _ _) (by simp [Value.oneCell']) (by omega) (by unfold maxLen; omega) (by omega) (by have := hBe.size; rw [World.size_alloc']; omega) _ rfl ?_; intro g2 cap2 w2 hown2 hg2 hat2 hlt2))
      have hat3 := hide hat2
      have hE := hide (entries_step (n := m + 1) (cap := cap2) (v := .iface tv (ptr gv)) hV.out hBe.size (fun g hg => (hown.lt g hg).2) hb1 (by rw [hvl.out]; exact hQ1) hg2 hat3.out)
      have hb2 : Below w.heap.size w w2 := by
        have h1 : Below w.heap.size w w1 := hW1.trans (hb1.mono (by have := hBe.size; rw [World.size_alloc']; omega))
        exact (h1.alloc h1.size _).grown hg2 (by have := h1.size; rw [World.size_alloc']; omega) (fun k hk => (hown.lt k hk).1)
      clear hat2 hat3
      go_roundw
      case rel => exact ⟨m + 1, vs ++ [.iface tv (ptr gv)], by omega, by go_num, by unfold Hid; rw [List.length_append, hvl.out]; rfl, hown2, hb2, hE⟩
      case measure => simp [intOf]; omega
    · have hmn : Hid (m = n) := by unfold Hid; omega
      have hlI : ¬ ((m : Int) < (n : Int)) := by omega
      have hE := hide (written_end (I := I) hn0 (by rw [hvl.out, hmn.out]) (by rw [← hmn.out]; exact hown) hBe hV.out)
      clear hl
      go_wp2
      go_ret
      exact hE.out
end Go.Proofs.YtipniinmajoolaaGreatDoor
