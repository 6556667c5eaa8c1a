/- Contract of impl.HTMLTag, and the walk of the law of tags. Conditions: texts of at most 1000 bytes in which no comment begins at the place. -/
import Derived.Test.YtfmclgmcadiikaaGreatTagL
import Derived.Test.YtfmclgmcadiikaaGreatRead
import Derived.Deep.MidRow
namespace Go.Proofs.YtfmclgmcadiikaaGreat
open Go.RowKit
theorem zzTag_yes (s : ByteArray) (i E : Nat) (w : World) (hs : s.size ≤ 1000) (hi : i < s.size) (h60 : bt s i = 60) (hcm : hitB s cmP i = false) (hE : tgE s i = some E) :
    Calls Tryz.prog 10 #[.string s, .int .i64 i] w fun e w' => ∃ h, e = .returned (.tuple #[.iface 74 (.pointer (some ⟨h, 0, none⟩)), .int .i64 (E : Nat), .bool true]) ∧ w'.cell? ⟨h, 0, none⟩ = some (.string (s.extract i E)) ∧ h < w'.heap.size ∧ Below w.heap.size w w' := by
  have P : Hid (∀ (g : Nat) (wx : World), CorP g wx → Calls Tryz.prog 17 #[.pointer (some ⟨g, 0, none⟩), .string s, .int .i64 i] wx fun e w' => ∃ h, e = .returned (.tuple #[.iface 74 (.pointer (some ⟨h, 0, none⟩)), .int .i64 (E : Nat), .bool true]) ∧ w'.cell? ⟨h, 0, none⟩ = some (.string (s.extract i E)) ∧ h < w'.heap.size ∧ Below g wx w') :=
    fun g wx h => (parseTag_any s i g wx hs hi h60 hcm h).mono fun e w' q => by rw [hE] at q; exact q
  clear hE hcm h60
  go_enter Tryz.func10, Tryz.ntmps10
  go_wp2_with (first | (go_at_call 18; refine (zzState_any _).mono ?_; rintro e w1 ⟨rfl, hb1, hC1⟩) | (go_at_call 17; refine (P.out _ _ hC1).mono ?_; rintro e w2 ⟨h2, rfl, hc2, hl2, hb2⟩))
  go_ret3
  exact ⟨h2, rfl, hc2, hl2, hb1.trans (hb2.mono (by omega))⟩
theorem zzTag_no (s : ByteArray) (i : Nat) (w : World) (hs : s.size ≤ 1000) (hi : i < s.size) (h60 : bt s i = 60) (hcm : hitB s cmP i = false) (hE : tgE s i = none) :
    Calls Tryz.prog 10 #[.string s, .int .i64 i] w fun e w' => e = .returned (.tuple #[.nilIface, .int .i64 0, .bool false]) ∧ Below w.heap.size w w' := by
  have P : Hid (∀ (g : Nat) (wx : World), CorP g wx → Calls Tryz.prog 17 #[.pointer (some ⟨g, 0, none⟩), .string s, .int .i64 i] wx fun e w' => e = .returned (.tuple #[.nilIface, .int .i64 0, .bool false]) ∧ Below g wx w') :=
    fun g wx h => (parseTag_any s i g wx hs hi h60 hcm h).mono fun e w' q => by rw [hE] at q; exact q
  clear hE hcm h60
  go_enter Tryz.func10, Tryz.ntmps10
  go_wp2_with (first | (go_at_call 18; refine (zzState_any _).mono ?_; rintro e w1 ⟨rfl, hb1, hC1⟩) | (go_at_call 17; refine (P.out _ _ hC1).mono ?_; rintro e w2 ⟨rfl, hb2⟩))
  go_ret3
  exact ⟨rfl, hb1.trans (hb2.mono (by omega))⟩
/-- A node in a block that stands below may be written. -/
theorem there_below {w wb w2 : World} {cs : Array Value} {ty : TypeId} (hw : wb = w.alloc (.cells cs ty)) (hb : Below (w.heap.size + 1) wb w2) (hn : cs.size = 16) : w2.there w.heap.size 0 16 := fun j hj => by
  subst hw
  refine ⟨?_, ?_⟩
  · rw [hb.cell (p := ⟨w.heap.size, 0 + j, none⟩) (by simp), World.cell?_alloc_at _ _ _ _ (by simp)]
    simp [hn, hj]
  · rw [hb.frozen (p := ⟨w.heap.size, 0 + j, none⟩) (by simp)]
    exact World.frozen?_alloc_at _ _ _ _ (by simp)
theorem below_setCells {B b : Nat} (hb : B ≤ b) (vs : List Value) : ∀ (o : Nat) (w w' : World), Below B w w' → Below B w (w'.setCells b o vs) := by
  induction vs with
  | nil => intro o w w' h; exact h
  | cons v r ih => intro o w w' h; rw [World.setCells]; exact ih _ _ _ (h.setCell (p := ⟨b, o, none⟩) hb v)
set_option maxRecDepth 100000 in
/-- A node stored into a block, and read back. -/
theorem node_store {w3 : World} {b : Nat} (cs : Array Value) (ht : w3.there b 0 16) (hn : cs.size = 16) (h1 : cs.all (·.oneCell') = true) :
    ∃ w4, (Instr.storeAt 28 (.pointer (some ⟨b, 0, none⟩)) (.agg cs)).run Tryz.prog w3 = .ok () w4 ∧ (∀ j v, cs[j]? = some v → w4.cell? ⟨b, j, none⟩ = some v) ∧ Below b w3 w4 := by
  have hi : (Tryz.prog.info? 28).map (·.size) = some 16 := by kernel_rfl
  refine ⟨_, run_storeAt_mid w3 b 0 28 cs (by rw [hn]; exact ht) (by rw [hn]; exact hi) h1, ?_, ?_⟩
  · have := World.rangeAt_setCells_same w3 b 0 cs.toList (by simpa [hn] using ht)
    intro j v h
    have q := this j v (by simpa using h)
    rw [Nat.zero_add] at q
    exact q
  · exact below_setCells (Nat.le_refl _) _ _ _ _ (Below.refl _ _)
theorem node_after {w w2 w3 : World} {cs0 : Array Value} {ty : TypeId} (hb2 : Below (w.alloc (.cells cs0 ty)).heap.size (w.alloc (.cells cs0 ty)) w2) (hb3 : Below w2.heap.size w2 w3) (hn : cs0.size = 16) (k : Int) (t : ByteArray) :
    ∃ w4, (Instr.storeAt 28 (.pointer (some ⟨w.heap.size, 0, none⟩)) (nodeKT k t)).run Tryz.prog w3 = .ok () w4 ∧ (∀ j v, (nodeCs k t)[j]? = some v → w4.cell? ⟨w.heap.size, j, none⟩ = some v) ∧ Below w.heap.size w w4 := by
  have hb := hb2.trans (hb3.mono hb2.size)
  obtain ⟨w4, h1, h2, h3⟩ := node_store (nodeCs k t) (there_below rfl (hb.mono (by simp)) hn) rfl (by simp [Value.oneCell'])
  exact ⟨w4, h1, h2, (((Below.refl _ _).alloc (Nat.le_refl _) _).trans (hb.mono (by simp))).trans h3⟩
/-- A store by a fact that tells its run. -/
theorem wpList_store_by {P : Program} {ops : Array Oper} {rest : List Oper} {op : Oper} {a : Act} {w w4 : World} {Q : Exit → Act → World → Prop} (hgd : op.guard = none) (ty : TypeId) (x y : Operand) (ho : op.op = .store ty x y)
    {p v : Value} (hr : (Instr.storeAt ty p v).run P w = .ok () w4) (hx : a.eval x = p) (hy : a.eval y = v) (h : wpList P ops Q rest (a.put op.dst undef) w4) : wpList P ops Q (op :: rest) a w :=
  wpList_plain hgd fun _ hK => by
    unfold Oper.wp execOp
    simp only [ho, hx, hy, Sem.run_bind, Sem.run_pure, hr, Result.andThen_ok]
    exact hK _ _ h
set_option maxRecDepth 100000 in
theorem oneTag_below (g : Nat) (t : ByteArray) (n : Int) (w : World) (hc : w.cell? ⟨g, 0, none⟩ = some (.string t)) (hg : g < w.heap.size) :
    Calls Tryz.prog 9 #[.iface 74 (.pointer (some ⟨g, 0, none⟩)), .int .i64 n, .bool true] w fun e w' => e = .returned (.tuple #[nodeKT 29 t, .int .i64 n, .bool true]) ∧ Below w.heap.size w w' :=
  (oneTag_yes g t n w hc hg).mono fun e w' h => ⟨h.1, by rw [← h.2]; exact ((Below.refl _ _).alloc (Nat.le_refl _) _).alloc (by simp) _⟩
theorem oneNo_below (x : Value) (n : Int) (w : World) :
    Calls Tryz.prog 9 #[x, .int .i64 n, .bool false] w fun e w' => e = .returned (.tuple #[nodeKT 0 ⟨#[]⟩, .int .i64 0, .bool false]) ∧ Below w.heap.size w w' :=
  (one_no x n w).mono fun e w' h => ⟨h.1, by rw [← h.2]; exact (Below.refl _ _).alloc (Nat.le_refl _) _⟩
set_option maxRecDepth 100000 in
set_option maxHeartbeats 1000000 in
theorem htmlTag_yes (s : ByteArray) (i E : Nat) (w : World) (hs : s.size ≤ 1000) (hi : i < s.size) (h60 : bt s i = 60) (hcm : hitB s cmP i = false) (hE : tgE s i = some E) :
    Calls Tryz.prog 6 #[.string s, .int .i64 i] w fun e w' => e = .returned (.tuple #[nodeKT 29 (s.extract i E), .int .i64 (E : Nat), .bool true]) ∧ Below w.heap.size w w' := by
  have P := hide (fun wx => zzTag_yes s i E wx hs hi h60 hcm hE)
  clear hE hcm h60
  go_enter Tryz.func6, Tryz.ntmps6
  go_wp2_with (first | (go_at_call 10; refine (P.out _).mono ?_; rintro e w2 ⟨h2, rfl, hc2, hl2, hb2⟩) | (go_at_call 9; refine (oneTag_below h2 (s.extract i E) _ _ hc2 hl2).mono ?_; rintro e w3 ⟨rfl, hb3⟩; obtain ⟨w4, HST, HLD, hb4⟩ := node_after hb2 hb3 rfl 29 (s.extract i E); clear hb2 hb3 hc2 hl2) | (refine wpList_store_by rfl 28 (.tmp 4) (.tmp 14) rfl HST (by rfl) (by rfl) ?_))
  exact bodyPost_ret (v := .tuple #[nodeKT 29 (s.extract i E), .int .i64 (E : Nat), .bool true]) (by simp [results, Tryz.results6, go_sem, HLD 0 _ rfl, HLD 1 _ rfl, HLD 2 _ rfl, HLD 3 _ rfl, HLD 4 _ rfl, HLD 5 _ rfl, HLD 6 _ rfl, HLD 7 _ rfl, HLD 8 _ rfl, HLD 9 _ rfl, HLD 10 _ rfl, HLD 11 _ rfl, HLD 12 _ rfl, HLD 13 _ rfl, HLD 14 _ rfl, HLD 15 _ rfl]) rfl ⟨rfl, hb4⟩
set_option maxRecDepth 100000 in
set_option maxHeartbeats 1000000 in
theorem htmlTag_no (s : ByteArray) (i : Nat) (w : World) (hs : s.size ≤ 1000) (hi : i < s.size) (h60 : bt s i = 60) (hcm : hitB s cmP i = false) (hE : tgE s i = none) :
    Calls Tryz.prog 6 #[.string s, .int .i64 i] w fun e w' => e = .returned (.tuple #[nodeKT 0 ⟨#[]⟩, .int .i64 0, .bool false]) ∧ Below w.heap.size w w' := by
  have P := hide (fun wx => zzTag_no s i wx hs hi h60 hcm hE)
  clear hE hcm h60
  go_enter Tryz.func6, Tryz.ntmps6
  go_wp2_with (first | (go_at_call 10; refine (P.out _).mono ?_; rintro e w2 ⟨rfl, hb2⟩) | (go_at_call 9; refine (oneNo_below _ _ _).mono ?_; rintro e w3 ⟨rfl, hb3⟩; obtain ⟨w4, HST, HLD, hb4⟩ := node_after hb2 hb3 rfl 0 ⟨#[]⟩; clear hb2 hb3) | (refine wpList_store_by rfl 28 (.tmp 4) (.tmp 14) rfl HST (by rfl) (by rfl) ?_))
  exact bodyPost_ret (v := .tuple #[nodeKT 0 ⟨#[]⟩, .int .i64 0, .bool false]) (by simp [results, Tryz.results6, go_sem, HLD 0 _ rfl, HLD 1 _ rfl, HLD 2 _ rfl, HLD 3 _ rfl, HLD 4 _ rfl, HLD 5 _ rfl, HLD 6 _ rfl, HLD 7 _ rfl, HLD 8 _ rfl, HLD 9 _ rfl, HLD 10 _ rfl, HLD 11 _ rfl, HLD 12 _ rfl, HLD 13 _ rfl, HLD 14 _ rfl, HLD 15 _ rfl]) rfl ⟨rfl, hb4⟩
set_option maxRecDepth 100000 in
set_option maxHeartbeats 4000000 in
theorem tag_walk (a0 : ByteArray) (a1 : Int) (w0 : a0.size ≤ maxLen) (w : World) :
    Calls Tryz.prog 3 #[.string a0, .int .i64 a1] w fun e w' => e = .returned (.bool true) ∧ Below w.heap.size w w' := by
  have W0 := hide w0
  unfold maxLen at w0
  by_cases h1 : 2147483647 < (a0.size : Int)
  · go_enter Tryz.func3, Tryz.ntmps3
    go_wp2
    go_ret
    exact ⟨rfl, Below.refl _ _⟩
  by_cases g0 : insideB a0 a1 200 = true
  case neg =>
    have g0 : insideB a0 a1 200 = false := by simpa using g0
    go_enter Tryz.func3, Tryz.ntmps3
    go_wp2_with (go_at_call 4; refine (inside_any _ _ _ _ W0.out).mono ?_; rintro e w' ⟨rfl, rfl⟩)
    go_ret
    exact ⟨rfl, Below.refl _ _⟩
  obtain ⟨p1, p2, p3, p4⟩ := inside_parts g0
  obtain ⟨i, rfl⟩ := Int.eq_ofNat_of_zero_le p1
  have hi : i ≤ a0.size := by omega
  have hs : a0.size ≤ 1000 := by omega
  have hb := get_bt a0
  by_cases hz : i = a0.size
  · have cz : ((i : Int) == (a0.size : Int)) = true := by simp; omega
    clear hb hz p4
    go_enter Tryz.func3, Tryz.ntmps3
    go_wp2_with (go_at_call 4; refine (inside_any _ _ _ _ W0.out).mono ?_; rintro e w' ⟨rfl, rfl⟩)
    go_ret
    exact ⟨rfl, Below.refl _ _⟩
  have cz : ((i : Int) == (a0.size : Int)) = false := by simp; omega
  have hzl : i < a0.size := by omega
  have hzI : (i : Int) < (a0.size : Int) := by omega
  by_cases h60 : bt a0 i = 60
  case neg =>
    have d0 : (bt a0 i != 60) = true := by simp [h60]
    clear hz h60 p4
    go_enter Tryz.func3, Tryz.ntmps3
    go_wp2_with (go_at_call 4; refine (inside_any _ _ _ _ W0.out).mono ?_; rintro e w' ⟨rfl, rfl⟩)
    go_ret
    exact ⟨rfl, Below.refl _ _⟩
  have d0 : (bt a0 i != 60) = false := by simp [h60]
  have ht := hit_tail a0 cmP i 0 hi
  rw [Nat.add_zero] at ht
  by_cases g1 : hitB a0 cmP i = true
  · rw [g1] at ht
    clear hz h60 p4 g1
    go_enter Tryz.func3, Tryz.ntmps3
    go_wp2_with (first | (go_at_call 4; refine (inside_any _ _ _ _ W0.out).mono ?_; rintro e w' ⟨rfl, rfl⟩) | (go_at_call 5; refine (headed_any _ cmP _).mono ?_; rintro e w' ⟨rfl, rfl⟩))
    go_ret
    exact ⟨rfl, Below.refl _ _⟩
  have g1 : hitB a0 cmP i = false := by simpa using g1
  rw [g1] at ht
  have hsz : (a0.extract i a0.size).size = a0.size - i := by rw [ByteArray.size_extract]; omega
  have hL : LinedT (a0.extract i a0.size) := fun k hk => by
    rw [hsz] at hk
    rw [tail_b (by omega)]
    exact p4 (i + k) (by omega)
  have R := fun wx => readTag_any (a0.extract i a0.size) wx (by omega) hL ht
  have hlen := rt_tg hzl h60
  rcases hlen with ⟨hE, hn⟩ | ⟨m, m1, m2, hE, hn⟩
  · rw [hn] at R
    have T := hide (fun wx => htmlTag_no a0 i wx hs hzl h60 g1 hE)
    have R := hide R
    clear hE hn hsz hL hz h60 g1 p4
    go_enter Tryz.func3, Tryz.ntmps3
    go_wp2_with (first | (go_at_call 4; refine (inside_any _ _ _ _ W0.out).mono ?_; rintro e w' ⟨rfl, rfl⟩) | (go_at_call 5; refine (headed_any _ cmP _).mono ?_; rintro e w' ⟨rfl, rfl⟩) | (go_at_call 6; refine (T.out _).mono ?_; rintro e w1 ⟨rfl, hb1⟩) | (go_at_call 7; refine (R.out _).mono ?_; rintro e w3 ⟨rfl, hb3⟩))
    go_ret
    exact ⟨rfl, (hb1.alloc hb1.size _).trans (hb3.mono (by have := hb1.size; simp; omega))⟩
  · rw [hn] at R
    have T := hide (fun wx => htmlTag_yes a0 i (i + m) wx hs hzl h60 g1 hE)
    have R := hide R
    have hne : ((m : Int) == 0) = false := by simp; omega
    have q1 : (i : Int) ≤ (i : Int) + (m : Int) := by omega
    have q2 : (i : Int) + (m : Int) ≤ (a0.size : Int) := by omega
    have hw : ((i + m : Nat) : Int) = (i : Int) + (m : Int) := by omega
    rw [hw] at T
    clear hE hn hsz hL hz h60 g1 p4 hw
    go_enter Tryz.func3, Tryz.ntmps3
    go_wp2_with (first | (go_at_call 4; refine (inside_any _ _ _ _ W0.out).mono ?_; rintro e w' ⟨rfl, rfl⟩) | (go_at_call 5; refine (headed_any _ cmP _).mono ?_; rintro e w' ⟨rfl, rfl⟩) | (go_at_call 6; refine (T.out _).mono ?_; rintro e w1 ⟨rfl, hb1⟩) | (go_at_call 7; refine (R.out _).mono ?_; rintro e w3 ⟨rfl, hb3⟩; have hx0 : w3.cell? ⟨w1.heap.size, 0, none⟩ = some (.int .i64 29) := (hb3.cell (p := ⟨w1.heap.size, 0, none⟩) (by simp)).trans ((World.cell?_alloc_at _ _ _ _ (by simp)).trans (by rfl)); have hx1 : w3.cell? ⟨w1.heap.size, 1, none⟩ = some (.string (a0.extract i (i + m))) := (hb3.cell (p := ⟨w1.heap.size, 1, none⟩) (by simp)).trans ((World.cell?_alloc_at _ _ _ _ (by simp)).trans (by rfl))))
    go_quiet (fail)
    go_wp2
    go_ret
    exact ⟨ret_bool (by simp), below_drewN ((hb1.alloc hb1.size _).trans (hb3.mono (by have := hb1.size; simp; omega))) _⟩
end Go.Proofs.YtfmclgmcadiikaaGreat
