/- What impl.MergePlain gives of a list of nodes (plain texts and code spans). Conditions: at most ten nodes, texts of at most 10000 bytes. -/
import Derived.Test.YtecccieeikmfeaaGreatMrg7
namespace Go.Proofs.YtecccieeikmfeaaGreat
open Go.RowKit
/-- The merged list. -/
def mergedL (ps : Nat → Bool) (xs : Nat → ByteArray) (n : Nat) : List (Bool × ByteArray) := flushM (outsM ps xs n).1 xs (outsM ps xs n).2 n
def mP (l : List (Bool × ByteArray)) (k : Nat) : Bool := (l.getD k (false, ByteArray.empty)).1
def mX (l : List (Bool × ByteArray)) (k : Nat) : ByteArray := (l.getD k (false, ByteArray.empty)).2
theorem merged_le (ps : Nat → Bool) (xs : Nat → ByteArray) (n : Nat) : (mergedL ps xs n).length ≤ n := by
  obtain ⟨h1, h2, _⟩ := outs_facts ps xs n
  exact flush_len _ xs _ n h1 h2
theorem row_of_own {w : World} {B g cap n : Nat} {vs : Nat → Value} (h : w.ownsRow B 37 1 (.slice (some ⟨g, 0, none⟩) n cap) n ((List.range n).map vs)) : B ≤ g ∧ n ≤ cap ∧ cap ≤ maxLen ∧ ∃ cur, ObjAt w g cur 37 ∧ cur.size = cap ∧ ∀ k, k < n → cur[k]? = some (vs k) := by
  rcases h.2 with ⟨h0, _⟩ | ⟨g', c, cur, hv, hb, hg, hnc, hcm, hcs, ht⟩
  · cases h0
  · injection hv with e1 e2 e3
    have e1' : g = g' := by injection e1 with e; injection e
    subst e1' e3
    refine ⟨hb, hnc, hcm, cur, hg, by omega, fun k hk => ?_⟩
    have h2 : cur[k]? = ((List.range n).map vs)[k]? := by rw [← ht, Nat.mul_one, List.getElem?_take_of_lt hk, Array.getElem?_toList]
    rw [h2]; simp [hk]
theorem MgO.final {w wr : World} {g2 n cap lo : Nat} {vs : Nat → Value} {o : List (Bool × ByteArray)} (h : MgO w g2 n cap vs o lo wr) : ∃ us : Nat → Value, RowP wr g2 o.length us ∧ ∀ k, k < o.length → LeafQ wr (us k) (mP o k) (mX o k) := by
  obtain ⟨_, cur, h2, _, _, h5⟩ := h
  have hk : ∀ k, k < o.length → ∃ v, cur[k]? = some v ∧ LeafQ wr v (mP o k) (mX o k) := fun k hk => by
    have e : o[k]? = some (o.getD k (false, ByteArray.empty)) := by rw [List.getD_eq_getElem?_getD, List.getElem?_eq_getElem hk, Option.getD_some]
    exact h5 k _ e
  refine ⟨fun k => if h : k < o.length then (hk k h).choose else .nilIface, ⟨cur, h2, fun k hk2 => ?_⟩, fun k hk2 => ?_⟩
  · simp only [hk2, dif_pos]; exact (hk k hk2).choose_spec.1
  · simp only [hk2, dif_pos]; exact (hk k hk2).choose_spec.2
/-- A row that ZZMergePlain gives. -/
def MergedP (o : List (Bool × ByteArray)) (w : World) (e : Ending) (w' : World) : Prop := ∃ (g cap : Nat) (us : Nat → Value), e = .returned (.slice (some ⟨g, 0, none⟩) o.length cap) ∧ o.length ≤ cap ∧ cap ≤ 9223372036854775807 ∧ RowP w' g o.length us ∧ (∀ k, k < o.length → LeafQ w' (us k) (mP o k) (mX o k)) ∧ Below w.heap.size w w'
set_option maxHeartbeats 2000000 in
set_option maxRecDepth 100000 in
theorem zzMerge_any (r n cap : Nat) (vs : Nat → Value) (ps : Nat → Bool) (xs : Nat → ByteArray) (w : World) (hn : n ≤ 10) (hn0 : 0 < n) (hr : RowP w r n vs) (hrl : r < w.heap.size) (hl : ∀ k, k < n → LeafQ w (vs k) (ps k) (xs k)) (h1 : ∀ k, k < n → (vs k).oneCell' = true) (hx : ∀ k, k < n → (xs k).size ≤ 10000) :
    Calls Tryz.prog 8 #[.slice (some ⟨r, 0, none⟩) n cap] w (MergedP (mergedL ps xs n) w) := by
  obtain ⟨i0, hi0, hz0, hz1, hz2⟩ := info_parts info_inl
  have HL := hide hl
  have HX := hide hx
  have HC : Hid (∀ w1 : World, Below w.heap.size w w1 → ∀ j u, ((List.range n).map vs)[j]? = some u → w1.cell? ((⟨r, 0, none⟩ : Addr).add j) = some u) := by
    intro w1 hb1 j u hj
    have hjn : j < n := by
      have := (List.getElem?_eq_some_iff.1 hj).1
      simpa using this
    simp [hjn] at hj
    subst hj
    have e : (⟨r, 0, none⟩ : Addr).add j = ⟨r, j, none⟩ := by rw [Addr.add_lit, Nat.zero_add]
    rw [e, hb1.cell (p := ⟨r, j, none⟩) hrl]
    exact hr.cell hjn
  have HO1 : Hid (∀ u ∈ (List.range n).map vs, u.oneCell' = true) := by
    intro u hu
    obtain ⟨k, hk, rfl⟩ := List.mem_map.1 hu
    exact h1 k (List.mem_range.1 hk)
  clear hr hl hx h1
  go_enter Tryz.func8, Tryz.ntmps8
  go_wp2_with (first | (go_at_call 12; refine (zzState_any _).mono ?_; rintro e w1 ⟨rfl, hb1⟩) | (at_builtin; refine wpList_append_lies _ rfl (.const (.slice none 0 0)) (.tmp 4) 32 rfl w1.heap.size 37 i0 .nilIface 1 16 Tryz.underlying32 hi0 hz0 hz1 hz2 rfl (by decide) _ 0 [] rfl (World.ownsRow_nil _ _ _ _) ⟨r, 0, none⟩ n cap ((List.range n).map vs) rfl (by simp) (HC.out w1 hb1) HO1.out hn0 (by unfold maxLen; omega) (by omega) (Nat.le_refl _) _ rfl ?_; intro g2 cap2 w2 hown2 hg2 hat2 hlt2; rw [Nat.zero_add] at hown2; rw [List.nil_append] at hown2; have hb2 := (Below.refl w1.heap.size w1).grown hg2 (Nat.le_refl _) (fun k hk => by cases hk); obtain ⟨hq1, hq2, hq3, cur, hq4, hq5, hq6⟩ := row_of_own hown2; have hb12 := hb1.trans (hb2.mono hb1.size); have C := hide (mergePlain_any (.pointer (some ⟨w.heap.size + 2, 0, none⟩)) g2 n cap2 vs ps xs w2 cur hq4 hq5 hq6 (fun k hk => (HL.out k hk).below hb12) hn hq2 (by unfold maxLen at hq3; omega) HX.out); clear hq4 hq5 hq6 hown2 hat2 hg2) | (go_at_call 13; refine C.out.mono ?_; rintro e w3 ⟨rfl, hM3⟩))
  go_ret
  obtain ⟨us, hu1, hu2⟩ := hM3.final
  exact ⟨g2, cap2, us, rfl, Nat.le_trans (merged_le ps xs n) hq2, by unfold maxLen at hq3; omega, hu1, hu2, hb12.trans (Below.grown (Below.refl _ _) hM3.1 (by have := hb12.size; omega) (fun k hk => by have := hb1.size; simp at hk; omega))⟩
theorem info_node3 : (Tryz.prog.info? 26).map (fun i => (i.zero, i.size, i.bytes)) = some (some (.agg (nodeCs 0 ⟨#[]⟩)), 16, 192) := by kernel_rfl
theorem new2 (w : World) (A B : Obj) : ((w.alloc A).alloc B).heap[w.heap.size + 1]? = some B := by
  have h := heap_alloc_new (w.alloc A) B
  rw [World.size_alloc'] at h
  exact h
theorem nodeCs_one (k : Int) (x : ByteArray) : ∀ u ∈ (nodeCs k x).toList, u.oneCell' = true := by
  intro u hu
  have h : (nodeCs k x).all (·.oneCell') = true := by simp [Value.oneCell']
  rw [Array.all_eq_true'] at h
  exact h u (by simpa using hu)
/-- The cells of nodes in a row. -/
def flatQ (ps : Nat → Bool) (xs : Nat → ByteArray) : Nat → List Value
  | 0 => []
  | m + 1 => flatQ ps xs m ++ (nodeQ (ps m) (xs m)).toList
theorem flatQ_len (ps : Nat → Bool) (xs : Nat → ByteArray) : ∀ m, (flatQ ps xs m).length = m * 16
  | 0 => rfl
  | m + 1 => by rw [flatQ, List.length_append, flatQ_len ps xs m, Array.length_toList, nodeQ_size]; omega
theorem flatQ_get (ps : Nat → Bool) (xs : Nat → ByteArray) (k j : Nat) (v : Value) (h : (nodeQ (ps k) (xs k)).toList[j]? = some v) : ∀ m, k < m → (flatQ ps xs m)[k * 16 + j]? = some v
  | 0, hk => absurd hk (by omega)
  | m + 1, hk => by
    have hj : j < 16 := by
      have := (List.getElem?_eq_some_iff.1 h).1
      rw [Array.length_toList, nodeQ_size] at this; exact this
    rw [flatQ]
    by_cases e : k < m
    · rw [List.getElem?_append_left (by rw [flatQ_len]; omega)]
      exact flatQ_get ps xs k j v h m e
    · obtain rfl : k = m := by omega
      rw [List.getElem?_append_right (by rw [flatQ_len]; omega), flatQ_len, Nat.add_sub_cancel_left]
      exact h
theorem nodes_of_own {w : World} {B g cap n : Nat} {ps : Nat → Bool} {xs : Nat → ByteArray} (h : w.ownsRow B 26 16 (.slice (some ⟨g, 0, none⟩) n cap) n (flatQ ps xs n)) : n ≤ cap ∧ cap ≤ maxLen ∧ NodesAt w g n ps xs := by
  have hc := h.cells (g := g) rfl
  rcases h.2 with ⟨h0, _⟩ | ⟨g', c, cur, hv, hb, hg, hnc, hcm, hcs, ht⟩
  · cases h0
  · injection hv with e1 e2 e3
    have e1' : g = g' := by injection e1 with e; injection e
    subst e1' e3
    refine ⟨hnc, hcm, (Array.getElem?_eq_some_iff.1 hg).1, fun k hk j v hv => ?_⟩
    have := hc (k * 16 + j) v (flatQ_get ps xs k j v hv n hk)
    rw [Addr.add_lit, Nat.zero_add] at this
    exact this
def NodesP (ps : Nat → Bool) (xs : Nat → ByteArray) (n : Nat) (w : World) (e : Ending) (w' : World) : Prop := ∃ g cap : Nat, e = .returned (.slice (some ⟨g, 0, none⟩) n cap) ∧ n ≤ cap ∧ cap ≤ 9223372036854775807 ∧ NodesAt w' g n ps xs ∧ Below w.heap.size w w'
set_option maxHeartbeats 4000000 in
set_option maxRecDepth 100000 in
theorem inlines_any (r n cap : Nat) (vs : Nat → Value) (ps : Nat → Bool) (xs : Nat → ByteArray) (w : World) (hn : n ≤ 10) (hn0 : 0 < n) (hr : RowP w r n vs) (hrl : r < w.heap.size) (hl : ∀ k, k < n → LeafQ w (vs k) (ps k) (xs k)) (hnc : n ≤ cap) :
    Calls Tryz.prog 7 #[.slice (some ⟨r, 0, none⟩) n cap] w (NodesP ps xs n w) := by
  obtain ⟨i0, hi0, hz0, hz1, hz2⟩ := info_parts info_node3
  have HR := hide hr
  have HL := hide hl
  clear hr hl
  go_enter Tryz.func7, Tryz.ntmps7
  go_wp2
  go_loopw [3, 8] (fun ov kv wr => ∃ m : Nat, m ≤ n ∧ kv = .int .i64 m ∧ wr.ownsRow w.heap.size 26 16 ov m (flatQ ps xs m) ∧ Below w.heap.size w wr) (fun _ kv _ => n - (intOf kv).toNat)
  case atStart => exact ⟨0, by omega, rfl, World.ownsRow_nil _ _ _ _, Below.refl _ _⟩
  case round =>
    obtain ⟨m, hm, rfl, hown, hBe⟩ := hrel
    by_cases hlt : m < n
    · have hltI : (m : Int) < (n : Int) := by omega
      have hrow : wr.cell? ⟨r, m, none⟩ = some (vs m) := by rw [hBe.cell (p := ⟨r, m, none⟩) hrl]; exact HR.out.cell hlt
      have hsz := hBe.size
      have hlf := (HL.out m hlt).below hBe
      cases hpm : ps m with
      | true =>
        rw [hpm] at hlf
        obtain ⟨g, hvg, hog⟩ := hlf.plain
        rw [hvg] at hrow
        have hc1 : wr.cell? ⟨g, 0, none⟩ = some (.string (xs m)) := (hog.cell 0).trans rfl
        have hg1 := hog.lt
        have HP := hide hpm
        clear hlf hvg hog hpm
        go_wp2_with (first | (go_at_call 11; refine (inlinePlain_any _ _ _ hc1 hg1).mono ?_; rintro e w1 ⟨rfl, rfl⟩) | (at_builtin; refine wpList_append_lies _ rfl (.tmp 12) (.tmp 15) 23 rfl w.heap.size 26 i0 (.agg (nodeCs 0 ⟨#[]⟩)) 16 192 Tryz.underlying23 hi0 hz0 hz1 hz2 rfl (by decide) _ m (flatQ ps xs m) rfl ((hown.alloc _).alloc _) ⟨wr.heap.size + 1, 0, none⟩ 1 1 (nodeCs 20 (xs m)).toList rfl rfl (World.news_of_block (cs := nodeCs 20 (xs m)) (new2 _ _ _)) (nodeCs_one 20 (xs m)) (by omega) (by unfold maxLen; omega) (by omega) (by rw [World.size_alloc', World.size_alloc']; omega) _ rfl ?_; intro g2 cap2 w2 hown2 hg2 hat2 hlt2; clear hat2))
        have hb2 : Below w.heap.size w w2 := ((hBe.alloc hsz _).alloc (by rw [World.size_alloc']; omega) _).grown hg2 (by rw [World.size_alloc', World.size_alloc']; omega) (fun k hk => (hown.lt k hk).1)
        have hFl : flatQ ps xs m ++ (nodeCs 20 (xs m)).toList = flatQ ps xs (m + 1) := by show _ = flatQ ps xs m ++ (nodeQ (ps m) (xs m)).toList; rw [HP.out]; rfl
        rw [hFl] at hown2
        clear hFl hg2
        go_roundw
        case rel => exact ⟨m + 1, by omega, by go_num, hown2, hb2⟩
        case measure => simp [intOf]; omega
      | false =>
        rw [hpm] at hlf
        obtain ⟨g, hvg, hog⟩ := hlf.code
        rw [hvg] at hrow
        have hc1 : wr.cell? ⟨g, 0, none⟩ = some (.string (xs m)) := (hog.cell 0).trans rfl
        have hg1 := hog.lt
        have HP := hide hpm
        clear hlf hvg hog hpm
        go_wp2_with (first | (go_at_call 11; refine (inlineCode_any _ _ _ hc1 hg1).mono ?_; rintro e w1 ⟨rfl, rfl⟩) | (at_builtin; refine wpList_append_lies _ rfl (.tmp 12) (.tmp 15) 23 rfl w.heap.size 26 i0 (.agg (nodeCs 0 ⟨#[]⟩)) 16 192 Tryz.underlying23 hi0 hz0 hz1 hz2 rfl (by decide) _ m (flatQ ps xs m) rfl ((hown.alloc _).alloc _) ⟨wr.heap.size + 1, 0, none⟩ 1 1 (nodeCs 23 (xs m)).toList rfl rfl (World.news_of_block (cs := nodeCs 23 (xs m)) (new2 _ _ _)) (nodeCs_one 23 (xs m)) (by omega) (by unfold maxLen; omega) (by omega) (by rw [World.size_alloc', World.size_alloc']; omega) _ rfl ?_; intro g2 cap2 w2 hown2 hg2 hat2 hlt2; clear hat2))
        have hb2 : Below w.heap.size w w2 := ((hBe.alloc hsz _).alloc (by rw [World.size_alloc']; omega) _).grown hg2 (by rw [World.size_alloc', World.size_alloc']; omega) (fun k hk => (hown.lt k hk).1)
        have hFl : flatQ ps xs m ++ (nodeCs 23 (xs m)).toList = flatQ ps xs (m + 1) := by show _ = flatQ ps xs m ++ (nodeQ (ps m) (xs m)).toList; rw [HP.out]; rfl
        rw [hFl] at hown2
        clear hFl hg2
        go_roundw
        case rel => exact ⟨m + 1, by omega, by go_num, hown2, hb2⟩
        case measure => simp [intOf]; omega
    · obtain rfl : m = n := by omega
      have hltI : ¬ ((m : Int) < (m : Int)) := by omega
      obtain ⟨g2, cap2, rfl, hbg, hg2⟩ := hown.form (by omega)
      obtain ⟨q1, q2, q3⟩ := nodes_of_own hown
      have Q3 := hide q3
      clear q3 hown
      go_wp2
      go_ret
      exact ⟨g2, cap2, rfl, q1, by unfold maxLen at q2; omega, Q3.out, hBe⟩
theorem LeafQ.one {w : World} {v : Value} {p : Bool} {x : ByteArray} (h : LeafQ w v p x) : v.oneCell' = true := by
  obtain ⟨g, ⟨_, a, _⟩ | ⟨_, a, _⟩⟩ := h
  · rw [a]; rfl
  · rw [a]; rfl
theorem RowP.lt {w : World} {r n : Nat} {vs : Nat → Value} (h : RowP w r n vs) : r < w.heap.size := by
  obtain ⟨cur, h1, _⟩ := h
  exact h1.lt
set_option maxHeartbeats 1000000 in
theorem implMerge_any (r n cap : Nat) (ps : Nat → Bool) (xs : Nat → ByteArray) (w : World) (hn : n ≤ 10) (hn0 : 0 < n) (hr : NodesAt w r n ps xs) (hx : ∀ k, k < n → (xs k).size ≤ 10000) (hm0 : 0 < (mergedL ps xs n).length) :
    Calls Tryz.prog 4 #[.slice (some ⟨r, 0, none⟩) n cap] w (NodesP (mP (mergedL ps xs n)) (mX (mergedL ps xs n)) (mergedL ps xs n).length w) := by
  have C := hide (written_q r n cap ps xs w hn hn0 hr)
  have HX := hide hx
  have hml := merged_le ps xs n
  obtain ⟨o, ho⟩ : ∃ o, o = mergedL ps xs n := ⟨_, rfl⟩
  rw [← ho] at hm0 hml ⊢
  have HO := hide ho
  clear hr hx ho
  go_enter Tryz.func4, Tryz.ntmps4
  go_wp2_with (first | (go_at_call 9; refine C.out.mono ?_; rintro e w1 ⟨g, cap1, vs, rfl, hnc, hcap, hH, hb1⟩; have Z := hide (zzMerge_any g n cap1 vs ps xs w1 hn hn0 hH.now.1 hH.now.1.lt hH.now.2 (fun k hk => (hH.now.2 k hk).one) HX.out); rw [← HO.out] at Z) | (go_at_call 8; refine Z.out.mono ?_; rintro e w2 ⟨g2, cap2, us, rfl, q1, q2, q3, q4, hb2⟩; have Y := hide (inlines_any g2 o.length cap2 us (mP o) (mX o) w2 (by omega) hm0 q3 q3.lt q4 q1); clear q3 q4) | (go_at_call 7; refine Y.out.mono ?_; rintro e w3 ⟨g3, cap3, rfl, p1, p2, p3, hb3⟩))
  go_ret
  exact ⟨g3, cap3, rfl, p1, p2, p3, (hb1.trans (hb2.mono hb1.size)).trans (hb3.mono (by have := hb1.size; have := hb2.size; omega))⟩
end Go.Proofs.YtecccieeikmfeaaGreat
