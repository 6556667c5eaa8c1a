/- mergePlain: plain texts that stand side by side become one, in the row itself. Conditions: at most ten inlines, texts of at most 10000 bytes. -/
import Derived.Test.YtecccieeikmfeaaGreatMrg6
import Derived.WalkMore
import Derived.ArgAppend
namespace Go.Proofs.YtecccieeikmfeaaGreat
open Go.RowKit
section
variable {P : Program}
/-- One element appended where there is room: a store. -/
theorem wpList_append_into (w : World) {ops : Array Oper} {rest : List Oper} {o : Oper} {a : Act} {Q : Exit → Act → World → Prop} (hgd : o.guard = none) (s x : Operand) (t : TypeId)
    (hop : o.op = Op.call { callee := Callee.builtin Builtin.append, args := #[s, x], argTypes := #[t, t] }) (e : TypeId) (i : TypeInfo) (h1 : P.underlying t = some (.slice e)) (h2 : P.info? e = some i) (h4 : i.size = 1)
    (b n cap : Nat) (cur : Array Value) (hs : a.eval s = .slice (some ⟨b, 0, none⟩) n cap) (hb : w.heap[b]? = some (.cells cur e (0, 0))) (hcs : cur.size = cap) (hn : n < cap) (ad : Addr) (c : Nat) (u : Value) (hx : a.eval x = .slice (some ad) 1 c)
    (hc : w.cell? ad = some u) (h1c : u.oneCell' = true)
    (hK : ∀ w', w' = w.setCell ⟨b, n, none⟩ u → wpList P ops Q rest (a.put o.dst (.slice (some ⟨b, 0, none⟩) (n + 1) cap)) w') : wpList P ops Q (o :: rest) a w := by
  refine wpList_plain hgd fun K hK' => ?_
  have hcell : ∀ j, w.cell? ⟨b, j, none⟩ = cur[j]? := fun j => by simp [World.cell?, hb]
  have hfz : ∀ j, w.frozen? ⟨b, j, none⟩ = false := fun j => Lib.frozen_of_heap hb j
  have hrun := run_append_room_cells (P := P) w t o.type e i h1 h2 b 0 n cap ad 1 c [u] (by simp [h4]) (fun j v hj => by
    have hj0 : j = 0 := by
      have := (List.getElem?_eq_some_iff.1 hj).1
      simp at this; omega
    subst hj0
    simp at hj
    subst hj
    have e0 : ad.add 0 = ad := by simp [Addr.add]
    rw [e0]; exact hc) (fun v hv => by simp at hv; subst hv; exact h1c) (by omega) (fun j hj => by
    simp at hj
    subst hj
    rw [hcell, h4]
    simp [hcs, hn]) (fun j hj => hfz _)
  unfold Oper.wp
  simp [execOp, hop, resolve, invoke, builtin, hs, hx, hrun, Result.andThen]
  rw [h4]
  simp only [Nat.mul_one, World.setCells]
  exact hK' _ _ (hK _ rfl)
end
theorem grown_below {w w' : World} {row : Option Nat} (h : Below w.heap.size w w') : w.grownBy w' row := ⟨h.os, h.tape, h.output, h.size, fun k hk _ => h.block k hk⟩
theorem grown_set (w : World) (b j : Nat) (v : Value) : w.grownBy (w.setCell ⟨b, j, none⟩ v) (some b) :=
  ⟨rfl, rfl, rfl, by simp [World.setCell], fun k _ hne => Below.heap_setCell _ _ _ _ (fun e => hne (by rw [e]))⟩
theorem grown_tr {a b c : World} {row : Option Nat} (h : a.grownBy b row) (k : b.grownBy c row) : a.grownBy c row :=
  ⟨k.os.trans h.os, k.tape.trans h.tape, k.output.trans h.output, Nat.le_trans h.size k.size, fun i hi hne => (k.block i (by have := h.size; omega) hne).trans (h.block i hi hne)⟩
theorem LeafQ.grown {w w' : World} {v : Value} {p : Bool} {x : ByteArray} {g2 : Nat} {cur : Array Value} (hl : LeafQ w v p x) (hg : w.grownBy w' (some g2)) (h2 : ObjAt w g2 cur 37) : LeafQ w' v p x := by
  obtain ⟨g, h3⟩ := hl
  refine ⟨g, ?_⟩
  have hne : ∀ {T : TypeId}, T ≠ 37 → ObjAt w g #[.string x] T → ObjAt w' g #[.string x] T := fun hT ho => ho.same (hg.block g ho.lt (fun e => by
    have e' : g = g2 := Option.some.inj e
    subst e'
    unfold ObjAt at ho h2
    rw [h2] at ho
    have := Option.some.inj ho
    injection this with _ e2 _
    exact hT e2.symm))
  rcases h3 with ⟨e0, e, ho⟩ | ⟨e0, e, ho⟩
  · exact .inl ⟨e0, e, hne (by decide) ho⟩
  · exact .inr ⟨e0, e, hne (by decide) ho⟩
/-- The texts of a run. -/
def flushM (o : List (Bool × ByteArray)) (xs : Nat → ByteArray) (s i : Nat) : List (Bool × ByteArray) := if s < i then o ++ [(true, catY (fun k => xs (s + k)) (i - s))] else o
/-- What has been put out ahead of a place, and where the run begins that stands open there. -/
def outsM (ps : Nat → Bool) (xs : Nat → ByteArray) : Nat → List (Bool × ByteArray) × Nat
  | 0 => ([], 0)
  | i + 1 => if ps i = true then outsM ps xs i else (flushM (outsM ps xs i).1 xs (outsM ps xs i).2 i ++ [(false, xs i)], i + 1)
theorem flush_len (o : List (Bool × ByteArray)) (xs : Nat → ByteArray) (s i : Nat) (h : o.length ≤ s) (hs : s ≤ i) : (flushM o xs s i).length ≤ i := by
  unfold flushM; split
  · rw [List.length_append]; simp; omega
  · omega
theorem outs_facts (ps : Nat → Bool) (xs : Nat → ByteArray) : ∀ i, (outsM ps xs i).1.length ≤ (outsM ps xs i).2 ∧ (outsM ps xs i).2 ≤ i ∧ ∀ k, (outsM ps xs i).2 ≤ k → k < i → ps k = true
  | 0 => ⟨by simp [outsM], by simp [outsM], fun k _ h => absurd h (by omega)⟩
  | i + 1 => by
    obtain ⟨h1, h2, h3⟩ := outs_facts ps xs i
    by_cases hp : ps i = true
    · rw [outsM, if_pos hp]
      refine ⟨h1, by omega, fun k a b => ?_⟩
      by_cases e : k = i
      · subst e; exact hp
      · exact h3 k a (by omega)
    · rw [outsM, if_neg hp]
      refine ⟨?_, Nat.le_refl _, fun k a b => by simp at a; omega⟩
      have := flush_len (outsM ps xs i).1 xs (outsM ps xs i).2 i h1 h2
      rw [List.length_append]; simp; omega
/-- The row in the middle of the work: what has been put out at its head, what came in from a place on. -/
def MgO (w : World) (g2 n cap : Nat) (vs : Nat → Value) (o : List (Bool × ByteArray)) (lo : Nat) (wr : World) : Prop :=
  w.grownBy wr (some g2) ∧ ∃ cur, ObjAt wr g2 cur 37 ∧ cur.size = cap ∧ (∀ j, lo ≤ j → j < n → cur[j]? = some (vs j)) ∧ (∀ (j : Nat) (q : Bool × ByteArray), o[j]? = some q → ∃ v, cur[j]? = some v ∧ LeafQ wr v q.1 q.2)
theorem MgO.start {w : World} {g2 n cap : Nat} {vs : Nat → Value} {cur : Array Value} (h : ObjAt w g2 cur 37) (hc : cur.size = cap) (hv : ∀ j, j < n → cur[j]? = some (vs j)) : MgO w g2 n cap vs [] 0 w :=
  ⟨⟨rfl, rfl, rfl, Nat.le_refl _, fun _ _ _ => rfl⟩, cur, h, hc, fun j _ hj => hv j hj, fun j q hq => by simp at hq⟩
theorem MgO.above {w wr : World} {g2 n cap lo lo' : Nat} {vs : Nat → Value} {o : List (Bool × ByteArray)} (h : MgO w g2 n cap vs o lo wr) (hl : lo ≤ lo') : MgO w g2 n cap vs o lo' wr := by
  obtain ⟨h1, cur, h2, h3, h4, h5⟩ := h
  exact ⟨h1, cur, h2, h3, fun j a b => h4 j (by omega) b, h5⟩
theorem MgO.carry {w wr w1 : World} {g2 n cap lo : Nat} {vs : Nat → Value} {o : List (Bool × ByteArray)} (h : MgO w g2 n cap vs o lo wr) (hb : Below wr.heap.size wr w1) : MgO w g2 n cap vs o lo w1 := by
  obtain ⟨h1, cur, h2, h3, h4, h5⟩ := h
  refine ⟨grown_tr h1 (grown_below hb), cur, h2.below hb h2.lt, h3, h4, fun j q hq => ?_⟩
  obtain ⟨v, a, b⟩ := h5 j q hq
  exact ⟨v, a, b.below hb⟩
theorem MgO.put {w wr : World} {g2 n cap lo k : Nat} {vs : Nat → Value} {o : List (Bool × ByteArray)} {v : Value} {p : Bool} {x : ByteArray} (h : MgO w g2 n cap vs o lo wr) (hv : LeafQ wr v p x) (hk : o.length = k) (hlo : k < lo) (hkc : k < cap) :
    MgO w g2 n cap vs (o ++ [(p, x)]) lo (wr.setCell ⟨g2, k, none⟩ v) := by
  subst hk
  obtain ⟨h1, cur, h2, h3, h4, h5⟩ := h
  have hg := grown_set wr g2 o.length v
  refine ⟨grown_tr h1 hg, cur.setIfInBounds o.length v, ?_, by simpa using h3, fun j a b => ?_, fun j q hq => ?_⟩
  · unfold ObjAt at h2 ⊢
    simp [World.setCell, Array.getElem?_modify, h2]
  · rw [Array.getElem?_setIfInBounds_ne (by omega)]
    exact h4 j a b
  · by_cases e : j < o.length
    · rw [List.getElem?_append_left e] at hq
      obtain ⟨u, a, b⟩ := h5 j q hq
      exact ⟨u, by rw [Array.getElem?_setIfInBounds_ne (by omega)]; exact a, b.grown hg h2⟩
    · have hj : j = o.length := by
        have := (List.getElem?_eq_some_iff.1 hq).1
        simp at this; omega
      subst hj
      have hq' : q = (p, x) := by simpa using hq.symm
      subst hq'
      exact ⟨v, by rw [Array.getElem?_setIfInBounds_self_of_lt (by omega)], hv.grown hg h2⟩
theorem MgO.at {w wr : World} {g2 n cap lo : Nat} {vs : Nat → Value} {o : List (Bool × ByteArray)} (h : MgO w g2 n cap vs o lo wr) {j : Nat} (h1 : lo ≤ j) (h2 : j < n) : wr.cell? ⟨g2, j, none⟩ = some (vs j) := by
  obtain ⟨_, cur, a, _, b, _⟩ := h
  rw [a.cell]; exact b j h1 h2
theorem MgO.row {w wr : World} {g2 n cap lo : Nat} {vs : Nat → Value} {o : List (Bool × ByteArray)} (h : MgO w g2 n cap vs o lo wr) : ∃ cur, wr.heap[g2]? = some (.cells cur 37 (0, 0)) ∧ cur.size = cap := by
  obtain ⟨_, cur, a, b, _⟩ := h
  exact ⟨cur, a, b⟩
theorem LeafQ.plain {w : World} {v : Value} {x : ByteArray} (h : LeafQ w v true x) : ∃ g, v = .iface 50 (ptr g) ∧ ObjAt w g #[.string x] 53 := by
  obtain ⟨g, ⟨_, a, b⟩ | ⟨a, _⟩⟩ := h
  · exact ⟨g, a, b⟩
  · cases a
theorem LeafQ.code {w : World} {v : Value} {x : ByteArray} (h : LeafQ w v false x) : ∃ g, v = .iface 59 (ptr g) ∧ ObjAt w g #[.string x] 60 := by
  obtain ⟨g, ⟨a, _⟩ | ⟨_, a, b⟩⟩ := h
  · cases a
  · exact ⟨g, a, b⟩
/-- The leaves as they came in, in whatever world of the work. -/
theorem MgO.leaf {w wr : World} {g2 n cap lo : Nat} {vs : Nat → Value} {o : List (Bool × ByteArray)} (h : MgO w g2 n cap vs o lo wr) {cur0 : Array Value} (h0 : ObjAt w g2 cur0 37) {v : Value} {p : Bool} {x : ByteArray} (hl : LeafQ w v p x) : LeafQ wr v p x :=
  hl.grown h.1 h0
theorem info_inl1 : (Tryz.prog.info? 37).map (·.size) = some 1 := by kernel_rfl
/-- The contract of mergePlain1 at a run of the row. -/
theorem merge1_at {w wr : World} {g2 n cap lo s i : Nat} {vs : Nat → Value} {ps : Nat → Bool} {xs : Nat → ByteArray} {o : List (Bool × ByteArray)} {cur0 : Array Value} (h : MgO w g2 n cap vs o lo wr) (h0 : ObjAt w g2 cur0 37)
    (hl : ∀ k, k < n → LeafQ w (vs k) (ps k) (xs k)) (hp : ∀ k, s ≤ k → k < i → ps k = true) (hlo : lo ≤ s) (hsi : s < i) (hin : i ≤ n) (hn : n ≤ 10) (hnc : n ≤ cap) (hx : ∀ k, k < n → (xs k).size ≤ 10000) :
    Calls Tryz.prog 19 #[.slice (some ⟨g2, s, none⟩) (i - s) (cap - s)] wr fun e w' => ∃ g, e = .returned (ptr g) ∧ LeafQ w' (.iface 50 (ptr g)) true (catY (fun k => xs (s + k)) (i - s)) ∧ Below wr.heap.size wr w' := by
  have hpl : ∀ k, k < i - s → ∃ g, vs (s + k) = .iface 50 (ptr g) ∧ ObjAt wr g #[.string (xs (s + k))] 53 := fun k hk => by
    have q := h.leaf h0 (hl (s + k) (by omega))
    rw [hp (s + k) (by omega) (by omega)] at q
    exact q.plain
  have hg : ∃ gs : Nat → Nat, ∀ k, k < i - s → vs (s + k) = .iface 50 (ptr (gs k)) ∧ ObjAt wr (gs k) #[.string (xs (s + k))] 53 :=
    ⟨fun k => if hk : k < i - s then (hpl k hk).choose else 0, fun k hk => by simp only [hk, dif_pos]; exact (hpl k hk).choose_spec⟩
  obtain ⟨gs, hgs⟩ := hg
  have hlt : g2 < wr.heap.size := by
    obtain ⟨cur, a, _⟩ := h.row
    exact (Array.getElem?_eq_some_iff.1 a).1
  refine (merge1_any g2 s (i - s) (cap - s) gs (fun k => xs (s + k)) wr (by omega) (by omega) (by omega) (fun k hk => ?_) hlt (fun k hk => (hgs k hk).2) (fun k hk => hx (s + k) (by omega))).mono fun e w' ⟨g, a, b, c⟩ => ⟨g, a, ⟨g, .inl ⟨rfl, rfl, b⟩⟩, c⟩
  rw [← (hgs k hk).1]
  exact h.at (by omega) (by omega)
set_option maxHeartbeats 4000000 in
set_option maxRecDepth 100000 in
theorem mergePlain_any (ad : Value) (g2 n cap : Nat) (vs : Nat → Value) (ps : Nat → Bool) (xs : Nat → ByteArray) (w : World) (cur0 : Array Value) (h0 : ObjAt w g2 cur0 37) (hc0 : cur0.size = cap) (hv : ∀ j, j < n → cur0[j]? = some (vs j))
    (hl : ∀ k, k < n → LeafQ w (vs k) (ps k) (xs k)) (hn : n ≤ 10) (hnc : n ≤ cap) (hcap : cap ≤ 9223372036854775807) (hx : ∀ k, k < n → (xs k).size ≤ 10000) :
    Calls Tryz.prog 13 #[ad, .slice (some ⟨g2, 0, none⟩) n cap] w fun e w' => e = .returned (.slice (some ⟨g2, 0, none⟩) (flushM (outsM ps xs n).1 xs (outsM ps xs n).2 n).length cap) ∧ MgO w g2 n cap vs (flushM (outsM ps xs n).1 xs (outsM ps xs n).2 n) n w' := by
  obtain ⟨i0, hi0, hi1⟩ : ∃ i0, Tryz.prog.info? 37 = some i0 ∧ i0.size = 1 := by
    have h := info_inl1
    cases he : Tryz.prog.info? 37 with
    | none => rw [he] at h; simp at h
    | some i => rw [he] at h; exact ⟨i, rfl, by simpa using h⟩
  have HL := hide hl
  have HX := hide hx
  have H0 := hide h0
  have HS := hide (MgO.start h0 hc0 hv)
  clear hl hx h0 hc0 hv
  go_enter Tryz.func13, Tryz.ntmps13
  go_wp2
  go_loopw [5, 6, 7] (fun ov sv kv wr => ∃ i s k : Nat, i ≤ n ∧ s ≤ i ∧ k ≤ s ∧ ov = .slice (some ⟨g2, 0, none⟩) k cap ∧ sv = .int .i64 s ∧ kv = .int .i64 i ∧ Hid ((outsM ps xs i).1.length = k ∧ (outsM ps xs i).2 = s) ∧ Hid (MgO w g2 n cap vs (outsM ps xs i).1 s wr)) (fun _ _ kv _ => n - (intOf kv).toNat)
  case atStart => exact ⟨0, 0, 0, by omega, by omega, by omega, rfl, rfl, rfl, ⟨rfl, rfl⟩, HS.out⟩
  case round =>
    obtain ⟨i, s, k, hi, hs, hk, rfl, rfl, rfl, hO, hM⟩ := hrel
    by_cases hin : i < n
    · have hinI : (i : Int) < (n : Int) := by omega
      have hlf := hM.out.leaf H0.out (HL.out i hin)
      have hcl := hM.out.at (j := i) hs hin
      cases hpi : ps i with
      | true =>
        rw [hpi] at hlf
        obtain ⟨g, hvg, hog⟩ := hlf.plain
        rw [hvg] at hcl
        have HP := hide hpi
        clear hlf hvg hog hpi
        go_wp2_with (go_at_call 18; refine (toPlain_plain _ _).mono ?_; rintro e w' ⟨rfl, rfl⟩)
        go_roundw
        case rel => exact ⟨i + 1, s, k, by omega, by omega, hk, rfl, rfl, by go_num, by unfold Hid; rw [outsM, if_pos HP.out]; exact hO.out, by unfold Hid; rw [outsM, if_pos HP.out]; exact hM.out⟩
        case measure => simp [intOf]; omega
      | false =>
        rw [hpi] at hlf
        obtain ⟨g, hvg, hog⟩ := hlf.code
        have HV := hide hvg
        rw [hvg] at hcl
        have hon : outsM ps xs (i + 1) = (flushM (outsM ps xs i).1 xs (outsM ps xs i).2 i ++ [(false, xs i)], i + 1) := by rw [outsM, if_neg (by rw [hpi]; simp)]
        rw [hO.out.2] at hon
        have HN := hide hon
        have HF := hide hlf
        have HPF := hide hpi
        clear hlf hvg hog hpi hon
        by_cases hsi : s < i
        · have hsiI : (s : Int) < (i : Int) := by omega
          have C := hide (merge1_at hM.out H0.out HL.out (by rw [← hO.out.2]; exact (outs_facts ps xs i).2.2) (Nat.le_refl s) hsi hi hn hnc HX.out)
          go_wp2_with (first | (go_at_call 18; refine (toPlain_code _ _).mono ?_; rintro e w' ⟨rfl, rfl⟩) | (go_at_call 19; refine C.out.mono ?_; rintro e w1 ⟨g1, rfl, hQ1, hb1⟩; have hA := hide (hM.out.carry (hb1.alloc hb1.size (.cells #[.iface 50 (ptr g1)] 37))); have hQ2 := hide (hQ1.below ((Below.refl _ _).alloc (Nat.le_refl _) (.cells #[.iface 50 (ptr g1)] 37))); clear hQ1) | (at_builtin; obtain ⟨cur1, hr1, hs1⟩ := hA.out.row; refine wpList_append_into _ rfl (.tmp 27) (.tmp 34) 32 rfl 37 i0 Tryz.underlying32 hi0 hi1 g2 k cap cur1 rfl hr1 hs1 (by omega) ⟨w1.heap.size, 0, none⟩ 1 (.iface 50 (ptr g1)) rfl (World.cell?_alloc_at _ _ _ _ (by simp)) rfl ?_; clear hr1 hs1; intro w2 hw2; have hB := hide (MgO.put (hA.out.above (show s ≤ i by omega)) hQ2.out hO.out.1 (by omega) (by omega)); rw [← hw2] at hB; clear hw2 hA hQ2; have hcl2 := hB.out.at (j := i) (Nat.le_refl i) hin; rw [HV.out] at hcl2; have HF2 := hide (hB.out.leaf H0.out (HL.out i hin)); rw [HPF.out] at HF2; rw [HV.out] at HF2) | (at_builtin; have hD := hide (hB.out.carry ((Below.refl _ _).alloc (Nat.le_refl _) (.cells #[.iface 59 (ptr g)] 37))); have hF3 := hide (HF2.out.below ((Below.refl _ _).alloc (Nat.le_refl _) (.cells #[.iface 59 (ptr g)] 37))); obtain ⟨cur2, hr2, hs2⟩ := hD.out.row; refine wpList_append_into _ rfl (.tmp 40) (.tmp 45) 32 rfl 37 i0 Tryz.underlying32 hi0 hi1 g2 (k + 1) cap cur2 rfl hr2 hs2 (by omega) ⟨w2.heap.size, 0, none⟩ 1 (.iface 59 (ptr g)) rfl (World.cell?_alloc_at _ _ _ _ (by simp)) rfl ?_; clear hr2 hs2; intro w3 hw3; have hE := hide (MgO.put (k := k + 1) (hD.out.above (show i ≤ i + 1 by omega)) hF3.out (by rw [List.length_append, hO.out.1]; rfl) (by omega) (by omega)); rw [← hw3] at hE; clear hw3 hD hF3))
          go_roundw
          case rel => exact ⟨i + 1, i + 1, k + 1 + 1, by omega, by omega, by omega, rfl, by go_num, by go_num, by unfold Hid; rw [HN.out]; unfold flushM; rw [if_pos hsi, List.length_append, List.length_append, hO.out.1]; exact ⟨rfl, rfl⟩, by unfold Hid; rw [HN.out]; unfold flushM; rw [if_pos hsi]; exact hE.out⟩
          case measure => simp [intOf]; omega
        · obtain rfl : s = i := by omega
          have hsiI : ¬ ((s : Int) < (s : Int)) := by omega
          rw [HV.out] at HF
          go_wp2_with (first | (go_at_call 18; refine (toPlain_code _ _).mono ?_; rintro e w' ⟨rfl, rfl⟩) | (at_builtin; have hD := hide (hM.out.carry ((Below.refl _ _).alloc (Nat.le_refl _) (.cells #[.iface 59 (ptr g)] 37))); have hF3 := hide (HF.out.below ((Below.refl _ _).alloc (Nat.le_refl _) (.cells #[.iface 59 (ptr g)] 37))); obtain ⟨cur2, hr2, hs2⟩ := hD.out.row; refine wpList_append_into _ rfl (.tmp 40) (.tmp 45) 32 rfl 37 i0 Tryz.underlying32 hi0 hi1 g2 (k) cap cur2 rfl hr2 hs2 (by omega) ⟨wr.heap.size, 0, none⟩ 1 (.iface 59 (ptr g)) rfl (World.cell?_alloc_at _ _ _ _ (by simp)) rfl ?_; clear hr2 hs2; intro w3 hw3; have hE := hide (MgO.put (k := k) (hD.out.above (show s ≤ s + 1 by omega)) hF3.out hO.out.1 (by omega) (by omega)); rw [← hw3] at hE; clear hw3 hD hF3))
          go_roundw
          case rel => exact ⟨s + 1, s + 1, k + 1, by omega, by omega, by omega, rfl, by go_num, by go_num, by unfold Hid; rw [HN.out]; unfold flushM; rw [if_neg hsi, List.length_append, hO.out.1]; exact ⟨rfl, rfl⟩, by unfold Hid; rw [HN.out]; unfold flushM; rw [if_neg hsi]; exact hE.out⟩
          case measure => simp [intOf]; omega
    · obtain rfl : i = n := by omega
      have hinI : ¬ ((i : Int) < (i : Int)) := by omega
      have hge : (i : Int) ≤ (i : Int) := by omega
      by_cases hsi : s < i
      · have hsiI : (s : Int) < (i : Int) := by omega
        have HFl : Hid (flushM (outsM ps xs i).1 xs (outsM ps xs i).2 i = (outsM ps xs i).1 ++ [(true, catY (fun k => xs (s + k)) (i - s))]) := by unfold Hid; rw [hO.out.2]; unfold flushM; rw [if_pos hsi]
        have C := hide (merge1_at hM.out H0.out HL.out (by rw [← hO.out.2]; exact (outs_facts ps xs i).2.2) (Nat.le_refl s) hsi hi hn hnc HX.out)
        go_wp2_with (first | (go_at_call 19; refine C.out.mono ?_; rintro e w1 ⟨g1, rfl, hQ1, hb1⟩; have hA := hide (hM.out.carry (hb1.alloc hb1.size (.cells #[.iface 50 (ptr g1)] 37))); have hQ2 := hide (hQ1.below ((Below.refl _ _).alloc (Nat.le_refl _) (.cells #[.iface 50 (ptr g1)] 37))); clear hQ1) | (at_builtin; obtain ⟨cur1, hr1, hs1⟩ := hA.out.row; refine wpList_append_into _ rfl (.tmp 27) (.tmp 34) 32 rfl 37 i0 Tryz.underlying32 hi0 hi1 g2 k cap cur1 rfl hr1 hs1 (by omega) ⟨w1.heap.size, 0, none⟩ 1 (.iface 50 (ptr g1)) rfl (World.cell?_alloc_at _ _ _ _ (by simp)) rfl ?_; clear hr1 hs1; intro w2 hw2; have hB := hide (MgO.put (hA.out.above (show s ≤ i by omega)) hQ2.out hO.out.1 (by omega) (by omega)); rw [← hw2] at hB; clear hw2 hA hQ2))
        go_ret
        rw [HFl.out]
        exact ⟨by rw [List.length_append, hO.out.1]; rfl, hB.out⟩
      · have hsiI : ¬ ((s : Int) < (i : Int)) := by omega
        have HFl : Hid (flushM (outsM ps xs i).1 xs (outsM ps xs i).2 i = (outsM ps xs i).1) := by unfold Hid; rw [hO.out.2]; unfold flushM; rw [if_neg hsi]
        have HM2 := hide (hM.out.above hs)
        go_wp2
        go_ret
        rw [HFl.out]
        exact ⟨by rw [hO.out.1]; rfl, HM2.out⟩
end Go.Proofs.YtecccieeikmfeaaGreat
