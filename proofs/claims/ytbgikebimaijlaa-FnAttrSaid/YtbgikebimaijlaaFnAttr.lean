/- Proves Rows.FnAttrSaid: for every text and every place FnAttr returns true and the arguments read as before; no condition. The frame is the shell that the kit's proof-skeleton.mjs prints. The frame is the shell that the kit's proof-skeleton.mjs prints. -/
import Derived.Test.YtbgikebimaijlaaRows
import Derived.WalkKit
import Derived.ProofKit
import Derived.OpenShut
import Derived.ShutString
import Derived.Test.YtbgikebimaijlaaBase
import Derived.Test.YtbgikebimaijlaaAttr5
namespace Go.Proofs.Ytbgikebimaijlaa.fnAttr
open Go.ChangeShapes Go.WideShapes Go.ChangeAt Go.RowKit
open Go.ChangeMaps (open_string shut_string)
set_option linter.unusedVariables false

theorem own : ownKnob Try.prog.godebug = none := by kernel_rfl

theorem nameW_any (s : ByteArray) (i : Nat) (w : World) (hs : s.size ≤ 1000) (hi : i ≤ s.size) : Calls Try.prog 14 #[.string s, .int .i64 i] w fun e w' => e = .returned (.int .i64 (idxI (anE s i))) ∧ w = w' := by
  go_enter Try.func14, Try.ntmps14
  go_wp2_with (go_at_call 25; refine (attrName_any s i _ hs hi).mono ?_; rintro e w' ⟨rfl, rfl⟩)
  go_ret
  exact ⟨rfl, rfl⟩
theorem valueW_any (s : ByteArray) (i : Nat) (w : World) (hs : s.size ≤ 1000) (hi : i ≤ s.size) (hL : LinedT s) : Calls Try.prog 16 #[.string s, .int .i64 i] w fun e w' => e = .returned (.int .i64 (idxI (avE s i))) ∧ Below w.heap.size w w' := by
  go_enter Try.func16, Try.ntmps16
  go_wp2_with (go_at_call 26; refine (attrValue_any s i _ hs hi hL).mono ?_; rintro e w1 ⟨rfl, hb1⟩)
  go_ret
  exact ⟨rfl, hb1⟩
theorem atV_form (s : ByteArray) (i : Nat) : ∃ a b c, atV s i = .tuple #[.string a, .int .i64 b, .bool c] := by unfold atV; split <;> exact ⟨_, _, _, rfl⟩
set_option maxRecDepth 100000 in
set_option maxHeartbeats 4000000 in
theorem walk (a0 : ByteArray) (a1 : Int) (w0 : a0.size ≤ maxLen) (w1 : (Lit.int .i64 a1).wf = true) (w : World) :
    Calls Try.prog 4 #[.string a0, .int .i64 a1] w fun e w' => e = .returned (.bool true) ∧ Below w.heap.size w w' := by
  have W0 := hide w0
  have hb := get_bt a0
  unfold maxLen at w0
  clear w1
  by_cases h1 : 2147483647 < (a0.size : Int)
  · clear hb
    go_enter Try.func4, Try.ntmps4
    go_wp2
    go_ret
    exact ⟨rfl, Below.refl _ _⟩
  by_cases g0 : insideB a0 a1 300 = true
  case neg =>
    have g0 : insideB a0 a1 300 = false := by simpa using g0
    clear hb
    go_enter Try.func4, Try.ntmps4
    go_wp2_with (go_at_call 7; refine (inside_any _ _ _ _ W0.out).mono ?_; rintro e w' ⟨rfl, rfl⟩)
    go_ret
    exact ⟨rfl, Below.refl _ _⟩
  obtain ⟨p1, p2, p3, hL⟩ := inside_parts g0
  obtain ⟨i, rfl⟩ := Int.eq_ofNat_of_zero_le p1
  have hi : i ≤ a0.size := by omega
  have hs : a0.size ≤ 1000 := by omega
  have hL : LinedT a0 := hL
  by_cases hz : i = a0.size
  · have cz : ((i : Int) == (a0.size : Int)) = true := by simp [hz]
    clear hb hz hL
    go_enter Try.func4, Try.ntmps4
    go_wp2_with (go_at_call 7; refine (inside_any _ _ _ _ W0.out).mono ?_; rintro e w' ⟨rfl, rfl⟩)
    go_ret
    exact ⟨rfl, Below.refl _ _⟩
  have cz : ((i : Int) == (a0.size : Int)) = false := by simp; omega
  have hiz : i < a0.size := by omega
  by_cases g1 : bkB (bt a0 i) = true
  case neg =>
    have g1 : bkB (bt a0 i) = false := by simpa using g1
    clear hL hz
    go_enter Try.func4, Try.ntmps4
    go_wp2_with (first | (go_at_call 7; refine (inside_any _ _ _ _ W0.out).mono ?_; rintro e w' ⟨rfl, rfl⟩) | (go_at_call 12; refine (isBlank_any _ _).mono ?_; rintro e w' ⟨rfl, rfl⟩))
    go_ret
    exact ⟨rfl, Below.refl _ _⟩
  obtain ⟨v, hv⟩ : ∃ v, scan bkB a0 i = v := ⟨_, rfl⟩
  obtain ⟨hv1, hv2, _⟩ := scan_is bkB a0 hi
  rw [hv] at hv1 hv2
  have hvb : scan blB a0 i = v := by rw [← bk_bl hL i, hv]
  have X : ∀ wx : World, Calls Try.prog 15 #[.string a0, .int .i64 i] wx fun e w' => e = .returned (.int .i64 v) ∧ wx = w' := fun wx => by
    have := white_any a0 i wx W0.out hi
    rw [hv] at this; exact this
  have XH := hide X
  clear X hv
  have C := fun wx => implAttr_any a0 i wx hs hi
  obtain ⟨x1, x2, x3, hx⟩ := atV_form a0 i
  have hbz := Below.refl w.heap.size w
  cases hA : anE a0 v with
  | none =>
    have hN : atE a0 v = none := by
      unfold atE
      unfold anE at hA
      rw [if_neg]
      rintro ⟨a, b⟩
      rw [if_pos ⟨by omega, b⟩] at hA; cases hA
    have hxx : atV a0 i = .tuple #[.string ⟨#[]⟩, .int .i64 0, .bool false] := by unfold atV; rw [hvb, hN]
    rw [hxx] at C
    have D : ∀ wx : World, Calls Try.prog 14 #[.string a0, .int .i64 v] wx fun e w' => e = .returned (.int .i64 (-1)) ∧ wx = w' := fun wx => by
      have := nameW_any a0 v wx hs hv2
      rw [hA] at this; exact this
    have CH := hide C
    have DH := hide D
    clear C D hx hxx hN hA hvb hL hz
    go_enter Try.func4, Try.ntmps4
    go_wp2_with (first | (go_at_call 7; refine (inside_any _ _ _ _ W0.out).mono ?_; rintro e w' ⟨rfl, rfl⟩) | (go_at_call 12; refine (isBlank_any _ _).mono ?_; rintro e w' ⟨rfl, rfl⟩) | (go_at_call 13; refine (CH.out _).mono ?_; rintro e w1 ⟨rfl, hb1⟩; replace hbz := hbz.trans (hb1.mono hbz.size)) | (go_at_call 15; refine (XH.out _).mono ?_; rintro e w' ⟨rfl, rfl⟩) | (go_at_call 14; refine (DH.out _).mono ?_; rintro e w' ⟨rfl, rfl⟩))
    go_ret
    exact ⟨rfl, hbz⟩
  | some n =>
    obtain ⟨hvz, hns, hn⟩ : v < a0.size ∧ nsB (bt a0 v) = true ∧ scan nmB a0 v = n := by
      unfold anE at hA
      split at hA
      · rename_i h; injection hA with hA; exact ⟨h.1, h.2, hA⟩
      · cases hA
    have hn0 : v + 1 ≤ n := by
      have := scan_step (p := nmB) hvz (ns_nm hns)
      have := scan_ge nmB a0 (i := v + 1) (by omega)
      omega
    have hn2 : n ≤ a0.size := by rw [← hn]; exact (scan_is nmB a0 hv2).2.1
    have D : ∀ wx : World, Calls Try.prog 14 #[.string a0, .int .i64 v] wx fun e w' => e = .returned (.int .i64 n) ∧ wx = w' := fun wx => by
      have := nameW_any a0 v wx hs hv2
      rw [hA] at this; exact this
    have DH := hide D
    clear D hA
    obtain ⟨y, hy⟩ : ∃ y, scan bkB a0 n = y := ⟨_, rfl⟩
    obtain ⟨hy1, hy2, _⟩ := scan_is bkB a0 hn2
    rw [hy] at hy1 hy2
    have hyb : scan blB a0 n = y := by rw [← bk_bl hL n, hy]
    have Y : ∀ wx : World, Calls Try.prog 15 #[.string a0, .int .i64 n] wx fun e w' => e = .returned (.int .i64 y) ∧ wx = w' := fun wx => by
      have := white_any a0 n wx W0.out hn2
      rw [hy] at this; exact this
    have YH := hide Y
    clear Y hy
    by_cases hq : y < a0.size ∧ bt a0 y = 61
    · obtain ⟨hyz, hq⟩ := hq
      have cq : (bt a0 y == 61) = true := by simp [hq]
      have cyz : (y : Int) < (a0.size : Int) := by omega
      obtain ⟨q, hqq⟩ : ∃ q, scan bkB a0 (y + 1) = q := ⟨_, rfl⟩
      obtain ⟨hq1, hq2, _⟩ := scan_is bkB a0 (i := y + 1) (by omega)
      rw [hqq] at hq1 hq2
      have hqb : scan blB a0 (y + 1) = q := by rw [← bk_bl hL (y + 1), hqq]
      have Z : ∀ wx : World, Calls Try.prog 15 #[.string a0, .int .i64 ((y : Int) + 1)] wx fun e w' => e = .returned (.int .i64 q) ∧ wx = w' := fun wx => by
        have := white_any a0 (y + 1) wx W0.out (by omega)
        rw [hqq] at this; simpa using this
      have ZH := hide Z
      clear Z hqq
      have V := fun wx => valueW_any a0 q wx hs hq2 hL
      cases hE : avE a0 q with
      | none =>
        rw [hE] at V
        rw [hx] at C
        have V : ∀ wx : World, Calls Try.prog 16 #[.string a0, .int .i64 q] wx fun e w' => e = .returned (.int .i64 (-1)) ∧ Below wx.heap.size wx w' := V
        have CH := hide C
        have VH := hide V
        clear C V hx hqb hyb hvb hL hz hE hns hn
        go_enter Try.func4, Try.ntmps4
        go_wp2_with (first | (go_at_call 7; refine (inside_any _ _ _ _ W0.out).mono ?_; rintro e w' ⟨rfl, rfl⟩) | (go_at_call 12; refine (isBlank_any _ _).mono ?_; rintro e w' ⟨rfl, rfl⟩) | (go_at_call 13; refine (CH.out _).mono ?_; rintro e w1 ⟨rfl, hb1⟩; replace hbz := hbz.trans (hb1.mono hbz.size)) | (go_at_call 15; with_reducible refine (XH.out _).mono ?_; rintro e w' ⟨rfl, rfl⟩) | (go_at_call 15; with_reducible refine (YH.out _).mono ?_; rintro e w' ⟨rfl, rfl⟩) | (go_at_call 15; with_reducible refine (ZH.out _).mono ?_; rintro e w' ⟨rfl, rfl⟩) | (go_at_call 14; refine (DH.out _).mono ?_; rintro e w' ⟨rfl, rfl⟩) | (go_at_call 16; refine (VH.out _).mono ?_; rintro e w2 ⟨rfl, hb2⟩; replace hbz := hbz.trans (hb2.mono hbz.size)))
        go_ret
        exact ⟨rfl, hbz⟩
      | some e =>
        obtain ⟨e1, e2⟩ := avE_ge hq2 hE
        have hS : atE a0 v = some e := by
          unfold atE
          rw [if_pos ⟨by omega, hns⟩, hn]
          unfold svE
          rw [hyb, if_pos ⟨by omega, hq⟩, hqb, hE]; rfl
        obtain ⟨x, hxx⟩ : ∃ x, atV a0 i = .tuple #[.string x, .int .i64 e, .bool true] := by unfold atV; rw [hvb, hS]; exact ⟨_, rfl⟩
        rw [hxx] at C
        rw [hE] at V
        have V : ∀ wx : World, Calls Try.prog 16 #[.string a0, .int .i64 q] wx fun e' w' => e' = .returned (.int .i64 e) ∧ Below wx.heap.size wx w' := V
        have CH := hide C
        have VH := hide V
        clear C V hx hxx hqb hyb hvb hL hz hE hns hn hS
        have ce0 : ¬ (e : Int) < 0 := by omega
        by_cases he : e = a0.size
        · have ce : ((e : Int) == (a0.size : Int)) = true := by simp [he]
          clear he
          go_enter Try.func4, Try.ntmps4
          go_wp2_with (first | (go_at_call 7; refine (inside_any _ _ _ _ W0.out).mono ?_; rintro e w' ⟨rfl, rfl⟩) | (go_at_call 12; refine (isBlank_any _ _).mono ?_; rintro e w' ⟨rfl, rfl⟩) | (go_at_call 13; refine (CH.out _).mono ?_; rintro e w1 ⟨rfl, hb1⟩; replace hbz := hbz.trans (hb1.mono hbz.size)) | (go_at_call 15; with_reducible refine (XH.out _).mono ?_; rintro e w' ⟨rfl, rfl⟩) | (go_at_call 15; with_reducible refine (YH.out _).mono ?_; rintro e w' ⟨rfl, rfl⟩) | (go_at_call 15; with_reducible refine (ZH.out _).mono ?_; rintro e w' ⟨rfl, rfl⟩) | (go_at_call 14; refine (DH.out _).mono ?_; rintro e w' ⟨rfl, rfl⟩) | (go_at_call 16; refine (VH.out _).mono ?_; rintro e w2 ⟨rfl, hb2⟩; replace hbz := hbz.trans (hb2.mono hbz.size)))
          go_ret
          exact ⟨rfl, hbz⟩
        · have ce : ((e : Int) == (a0.size : Int)) = false := by simp; omega
          have cee : ((e : Int) == (e : Int)) = true := by simp
          clear he
          go_enter Try.func4, Try.ntmps4
          go_wp2_with (first | (go_at_call 7; refine (inside_any _ _ _ _ W0.out).mono ?_; rintro e w' ⟨rfl, rfl⟩) | (go_at_call 12; refine (isBlank_any _ _).mono ?_; rintro e w' ⟨rfl, rfl⟩) | (go_at_call 13; refine (CH.out _).mono ?_; rintro e w1 ⟨rfl, hb1⟩; replace hbz := hbz.trans (hb1.mono hbz.size)) | (go_at_call 15; with_reducible refine (XH.out _).mono ?_; rintro e w' ⟨rfl, rfl⟩) | (go_at_call 15; with_reducible refine (YH.out _).mono ?_; rintro e w' ⟨rfl, rfl⟩) | (go_at_call 15; with_reducible refine (ZH.out _).mono ?_; rintro e w' ⟨rfl, rfl⟩) | (go_at_call 14; refine (DH.out _).mono ?_; rintro e w' ⟨rfl, rfl⟩) | (go_at_call 16; refine (VH.out _).mono ?_; rintro e w2 ⟨rfl, hb2⟩; replace hbz := hbz.trans (hb2.mono hbz.size)))
          go_ret
          exact ⟨rfl, hbz⟩
    · by_cases he : n = a0.size
      · have ce : ((n : Int) == (a0.size : Int)) = true := by simp [he]
        have hyz : ¬ (y : Int) < (a0.size : Int) := by omega
        rw [hx] at C
        have CH := hide C
        have ce0 : ¬ (n : Int) < 0 := by omega
        clear C hx hyb hvb hL hz hns hn hq he
        go_enter Try.func4, Try.ntmps4
        go_wp2_with (first | (go_at_call 7; refine (inside_any _ _ _ _ W0.out).mono ?_; rintro e w' ⟨rfl, rfl⟩) | (go_at_call 12; refine (isBlank_any _ _).mono ?_; rintro e w' ⟨rfl, rfl⟩) | (go_at_call 13; refine (CH.out _).mono ?_; rintro e w1 ⟨rfl, hb1⟩; replace hbz := hbz.trans (hb1.mono hbz.size)) | (go_at_call 15; with_reducible refine (XH.out _).mono ?_; rintro e w' ⟨rfl, rfl⟩) | (go_at_call 15; with_reducible refine (YH.out _).mono ?_; rintro e w' ⟨rfl, rfl⟩) | (go_at_call 14; refine (DH.out _).mono ?_; rintro e w' ⟨rfl, rfl⟩))
        go_ret
        exact ⟨rfl, hbz⟩
      have hS : atE a0 v = some n := by
        unfold atE
        rw [if_pos ⟨by omega, hns⟩, hn]
        unfold svE
        rw [hyb, if_neg (fun x => hq ⟨by omega, x.2⟩)]; rfl
      obtain ⟨x, hxx⟩ : ∃ x, atV a0 i = .tuple #[.string x, .int .i64 n, .bool true] := by unfold atV; rw [hvb, hS]; exact ⟨_, rfl⟩
      rw [hxx] at C
      have CH := hide C
      have ce0 : ¬ (n : Int) < 0 := by omega
      have ce : ((n : Int) == (a0.size : Int)) = false := by simp; omega
      have cee : ((n : Int) == (n : Int)) = true := by simp
      by_cases hyz : y < a0.size
      · have cyz : (y : Int) < (a0.size : Int) := by omega
        have cq : (bt a0 y == 61) = false := by
          by_cases x : bt a0 y = 61
          · exact absurd ⟨hyz, x⟩ hq
          · simpa using x
        clear C hx hxx hyb hvb hL hz hns hn hS hq he
        go_enter Try.func4, Try.ntmps4
        go_wp2_with (first | (go_at_call 7; refine (inside_any _ _ _ _ W0.out).mono ?_; rintro e w' ⟨rfl, rfl⟩) | (go_at_call 12; refine (isBlank_any _ _).mono ?_; rintro e w' ⟨rfl, rfl⟩) | (go_at_call 13; refine (CH.out _).mono ?_; rintro e w1 ⟨rfl, hb1⟩; replace hbz := hbz.trans (hb1.mono hbz.size)) | (go_at_call 15; with_reducible refine (XH.out _).mono ?_; rintro e w' ⟨rfl, rfl⟩) | (go_at_call 15; with_reducible refine (YH.out _).mono ?_; rintro e w' ⟨rfl, rfl⟩) | (go_at_call 14; refine (DH.out _).mono ?_; rintro e w' ⟨rfl, rfl⟩))
        go_ret
        exact ⟨rfl, hbz⟩
      · have cyz : ¬ (y : Int) < (a0.size : Int) := by omega
        clear C hx hxx hyb hvb hL hz hns hn hS hq he
        go_enter Try.func4, Try.ntmps4
        go_wp2_with (first | (go_at_call 7; refine (inside_any _ _ _ _ W0.out).mono ?_; rintro e w' ⟨rfl, rfl⟩) | (go_at_call 12; refine (isBlank_any _ _).mono ?_; rintro e w' ⟨rfl, rfl⟩) | (go_at_call 13; refine (CH.out _).mono ?_; rintro e w1 ⟨rfl, hb1⟩; replace hbz := hbz.trans (hb1.mono hbz.size)) | (go_at_call 15; with_reducible refine (XH.out _).mono ?_; rintro e w' ⟨rfl, rfl⟩) | (go_at_call 15; with_reducible refine (YH.out _).mono ?_; rintro e w' ⟨rfl, rfl⟩) | (go_at_call 14; refine (DH.out _).mono ?_; rintro e w' ⟨rfl, rfl⟩))
        go_ret
        exact ⟨rfl, hbz⟩

/-! The row's step, as the shell has it -/
set_option maxRecDepth 100000 in
theorem lifted (os : Os) (started : os.Started) (H : Type) (enc : TypeId × Value → H) :
    ReturnsInHanded {} Try.checked os 4 .any (Rows.fnAttrSpec.pre6 enc Try.prog Try.f4 Rows.fnAttrRow.domain false) (Rows.fnAttrSpec.post enc Try.prog Try.f4 false true false false) := by
  refine returnsInHanded_of_change (C := Try.checked) own started (by kernel_rfl) Try.func4
    (ChangeSpec.witness6 (enc := enc) (C := Try.checked) false ⟨#[], #[.string ByteArray.empty, .int .i64 0], []⟩ 8 (by kernel_rfl) (by kernel_rfl) (by kernel_rfl) (by kernel_rfl)) ?_
  intro W base args ds gs before hval0 hW hcnd _
  have hval : ∀ (j : Nat) t v, Try.f4.params[j]? = some t → args[j]? = some v → Value.okWide Try.prog W .any base t v := hval0
  have hW' := hW
  obtain ⟨p, q, hA0, hV, rfl, hfz, hnd⟩ := hW
  have hA : DataW.TrodAll enc Try.prog W 0 (fun _ => true) true Try.f4.params.toList args.toList ds p := hA0
  rw [Try.params4] at hA hval
  obtain ⟨v0, vs0, d0, ds0, p0, q0, hargs, rfl, rfl, h0, r0⟩ := trodAll_cons hA
  obtain ⟨v1, vs1, d1, ds1, p1, q1, rfl, rfl, rfl, h1, r1⟩ := trodAll_cons r0
  obtain ⟨rfl, rfl, rfl⟩ := trodAll_nil r1
  obtain rfl : args = #[v0, v1] := by cases args; simp_all
  obtain ⟨rfl, rfl⟩ := trodVars_none hV
  obtain ⟨a0, rfl, rfl, rfl, w0⟩ := open_string Try.underlying9 (hval 0 9 v0 rfl rfl) h0
  obtain ⟨a1, rfl, rfl, rfl, w1⟩ := open_int Try.underlying3 (hval 1 3 v1 rfl rfl) h1
  clear hA0 hval0
  simp only [List.append_nil] at hW'
  refine (walk a0 a1 w0 w1 W).mono fun e W' ⟨he, hg⟩ => ?_
  subst he
  exact ⟨_, rfl, post_of_below (pa := []) (pv := []) hW' (fun _ _ _ => (trodAll_cons_mk (shut_bool Try.underlying4 _) trodAll_mk0)) (fun sp _ => (trodAll_cons_mk (shut_string Try.underlying9 w0) (trodAll_cons_mk (shut_int Try.underlying3 w1) trodAll_mk0))) (fun _ _ => rfl) rfl
    hg (ok_one (by kernel_rfl) rfl (okWide_bool_mk Try.underlying4 _))⟩

theorem over : Rows.fnAttrRow.holds Try.pinned (OpenSpec.ofChange Rows.fnAttrSpec) :=
  OpenClaim.holds_of_wide 4 Try.f4 rfl rfl rfl rfl rfl rfl rfl ⟨rfl, rfl, rfl, rfl, rfl⟩ rfl rfl rfl rfl rfl (by kernel_rfl) Try.func4 (by kernel_rfl)
    (of_decide_eq_true (by kernel_rfl)) (by unfold Func.isWrapper; first | (rw [if_pos (by decide +kernel)]; kernel_rfl) | (rw [if_neg (by decide +kernel)]; exact ⟨rfl, rfl⟩))
    (fun os started H enc _ => lifted os started H enc)

/-- The statement. -/
theorem proved : Rows.FnAttrSaid :=
  over
#print axioms proved
end Go.Proofs.Ytbgikebimaijlaa.fnAttr
