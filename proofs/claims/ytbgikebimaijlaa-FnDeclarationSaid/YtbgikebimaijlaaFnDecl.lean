/- Proves Rows.FnDeclarationSaid: for every text and every place FnDeclaration returns true and the arguments read as before; no condition. The frame is the shell that the kit's proof-skeleton.mjs prints. The frame is the shell that the kit's proof-skeleton.mjs prints. -/
import Derived.Test.YtbgikebimaijlaaRows
import Derived.WalkKit
import Derived.ProofKit
import Derived.OpenShut
import Derived.ShutString
import Derived.Test.YtbgikebimaijlaaBase
import Derived.Test.YtbgikebimaijlaaDecl
namespace Go.Proofs.Ytbgikebimaijlaa.fnDeclaration
open Go.ChangeShapes Go.WideShapes Go.ChangeAt Go.RowKit
open Go.ChangeMaps (open_string shut_string)
set_option linter.unusedVariables false

theorem own : ownKnob Try.prog.godebug = none := by kernel_rfl

theorem untilW_any (t pre suf : ByteArray) (w : World) (hs : t.size ≤ 2147483647) (ht : suf.size ≤ 100) (hp : 0 < suf.size) : Calls Try.prog 11 #[.string t, .string pre, .string suf] w fun e w' => e = .returned (.int .i64 (untilN t pre suf : Nat)) ∧ w = w' := by
  go_enter Try.func11, Try.ntmps11
  go_wp2_with (go_at_call 23; refine (until_any t pre suf _ hs ht hp).mono ?_; rintro e w' ⟨rfl, rfl⟩)
  go_ret
  exact ⟨rfl, rfl⟩
set_option maxRecDepth 100000 in
set_option maxHeartbeats 4000000 in
theorem walk (a0 : ByteArray) (a1 : Int) (w0 : a0.size ≤ maxLen) (w1 : (Lit.int .i64 a1).wf = true) (w : World) :
    Calls Try.prog 5 #[.string a0, .int .i64 a1] w fun e w' => e = .returned (.bool true) ∧ Below w.heap.size w w' := by
  have W0 := hide w0
  unfold maxLen at w0
  clear w1
  by_cases h1 : 2147483647 < (a0.size : Int)
  · go_enter Try.func5, Try.ntmps5
    go_wp2
    go_ret
    exact ⟨rfl, Below.refl _ _⟩
  by_cases g0 : insideB a0 a1 300 = true
  case neg =>
    have g0 : insideB a0 a1 300 = false := by simpa using g0
    go_enter Try.func5, Try.ntmps5
    go_wp2_with (go_at_call 7; refine (inside_any _ _ _ _ W0.out).mono ?_; rintro e w' ⟨rfl, rfl⟩)
    go_ret
    exact ⟨rfl, Below.refl _ _⟩
  obtain ⟨p1, p2, p3, _⟩ := inside_parts g0
  obtain ⟨i, rfl⟩ := Int.eq_ofNat_of_zero_le p1
  have hi : i ≤ a0.size := by omega
  have hs : a0.size ≤ 1000 := by omega
  have ht := hit_tail a0 dcP i 0 hi
  rw [Nat.add_zero] at ht
  by_cases g1 : hitB a0 dcP i = true
  case neg =>
    have g1 : hitB a0 dcP i = false := by simpa using g1
    rw [g1] at ht
    go_enter Try.func5, Try.ntmps5
    go_wp2_with (first | (go_at_call 7; refine (inside_any _ _ _ _ W0.out).mono ?_; rintro e w' ⟨rfl, rfl⟩) | (go_at_call 8; refine (headed_any _ _ _).mono ?_; rintro e w' ⟨rfl, rfl⟩))
    go_ret
    exact ⟨rfl, Below.refl _ _⟩
  have hp2 : i + 2 ≤ a0.size := by
    apply Nat.le_of_not_lt; intro h; rw [hit_out (show a0.size < i + dcP.size from h)] at g1; cases g1
  rw [g1] at ht
  have hb := get_bt a0
  by_cases hz : i + 2 = a0.size
  · have cz : ((i : Int) + 2 == (a0.size : Int)) = true := by simp; omega
    clear hb hz
    go_enter Try.func5, Try.ntmps5
    go_wp2_with (first | (go_at_call 7; refine (inside_any _ _ _ _ W0.out).mono ?_; rintro e w' ⟨rfl, rfl⟩) | (go_at_call 8; refine (headed_any _ _ _).mono ?_; rintro e w' ⟨rfl, rfl⟩))
    go_ret
    exact ⟨rfl, Below.refl _ _⟩
  have cz : ((i : Int) + 2 == (a0.size : Int)) = false := by simp; omega
  have hzl : i + 2 < a0.size := by omega
  have hzI : (i : Int) + 2 < (a0.size : Int) := by omega
  by_cases c0 : 65 ≤ bt a0 (i + 2)
  case neg =>
    have d0 : decide (bt a0 (i + 2) < 65) = true := by simp; omega
    clear hz c0
    go_enter Try.func5, Try.ntmps5
    go_wp2_with (first | (go_at_call 7; refine (inside_any _ _ _ _ W0.out).mono ?_; rintro e w' ⟨rfl, rfl⟩) | (go_at_call 8; refine (headed_any _ _ _).mono ?_; rintro e w' ⟨rfl, rfl⟩))
    go_ret
    exact ⟨rfl, Below.refl _ _⟩
  by_cases c1 : bt a0 (i + 2) ≤ 90
  case neg =>
    have d0 : decide (bt a0 (i + 2) < 65) = false := by simp; omega
    have d1 : decide (90 < bt a0 (i + 2)) = true := by simp; omega
    have d0' : ¬ bt a0 (i + 2) < 65 := by omega
    have d1' : 90 < bt a0 (i + 2) := by omega
    clear hz c0 c1
    go_enter Try.func5, Try.ntmps5
    go_wp2_with (first | (go_at_call 7; refine (inside_any _ _ _ _ W0.out).mono ?_; rintro e w' ⟨rfl, rfl⟩) | (go_at_call 8; refine (headed_any _ _ _).mono ?_; rintro e w' ⟨rfl, rfl⟩))
    go_ret
    exact ⟨rfl, Below.refl _ _⟩
  have d0' : ¬ bt a0 (i + 2) < 65 := by omega
  have d1' : ¬ 90 < bt a0 (i + 2) := by omega
  have hu := until_tail a0 dcP dcS i hi (by decide) g1
  have hbz := Below.refl w.heap.size w
  rcases fst_is a0 dcS (i + 2) with ⟨k, k1, k2, k3, _⟩ | ⟨k1, _⟩
  · have C := fun wx => htmlDecl_yes a0 i k wx hs hzl c0 c1 g1 k1
    have hu : untilN (a0.extract i a0.size) dcP dcS = k + 1 - i := by
      rw [hu]; show (match fst_ a0 dcS (i + 2) with | some k => k + 1 - i | none => 0) = _; rw [k1]
    have k3 : k + 1 ≤ a0.size := k3
    obtain ⟨n, hn⟩ : ∃ n, n = k + 1 - i := ⟨_, rfl⟩
    rw [← hn] at hu
    have D : ∀ wx : World, Calls Try.prog 10 #[nodeKT 29 (a0.extract i (k + 1)), .int .i64 ((k : Int) + 1), .bool true, .string a0, .int .i64 i, .int .i64 n] wx fun e w' => e = .returned (.bool true) ∧ Below wx.heap.size wx w' := fun wx => by
      have := read_yes a0 i n wx hs (by omega) (by omega)
      rw [show i + n = k + 1 by omega, show ((k + 1 : Nat) : Int) = (k : Int) + 1 by omega] at this
      exact this
    have U : ∀ wx : World, Calls Try.prog 11 #[.string (a0.extract i a0.size), .string dcP, .string dcS] wx fun e w' => e = .returned (.int .i64 n) ∧ wx = w' := fun wx => by
      have := untilW_any (a0.extract i a0.size) dcP dcS wx (by rw [ByteArray.size_extract]; omega) (by decide) (by decide)
      rw [hu] at this; exact this
    have HN := hide hn
    clear hn
    have CH := hide C
    have DH := hide D
    have UH := hide U
    clear C D U hu k1 g1 hz c0 c1
    go_enter Try.func5, Try.ntmps5
    go_wp2_with (first | (go_at_call 7; refine (inside_any _ _ _ _ W0.out).mono ?_; rintro e w' ⟨rfl, rfl⟩) | (go_at_call 8; refine (headed_any _ _ _).mono ?_; rintro e w' ⟨rfl, rfl⟩) | (go_at_call 17; refine (CH.out _).mono ?_; rintro e w1 ⟨rfl, hb1⟩; replace hbz := hbz.trans (hb1.mono hbz.size)))
    go_region_with (first | (go_at_call 11; refine (UH.out _).mono ?_; rintro e w' ⟨rfl, rfl⟩) | (go_at_call 10; refine (DH.out _).mono ?_; rintro e w3 ⟨rfl, hb3⟩))
    all_goals
      go_wp2
      go_ret
      exact ⟨rfl, ((hbz.alloc hbz.size _).drew).trans (hb3.mono (by have := hbz.size; simp; omega))⟩
  · have C := fun wx => htmlDecl_no a0 i wx hs hzl c0 c1 (.inr k1)
    have hu : untilN (a0.extract i a0.size) dcP dcS = 0 := by
      rw [hu]; show (match fst_ a0 dcS (i + 2) with | some k => k + 1 - i | none => 0) = _; rw [k1]
    have D := fun wx => read_no ⟨#[]⟩ 0 0 a0 i wx
    have U : ∀ wx : World, Calls Try.prog 11 #[.string (a0.extract i a0.size), .string dcP, .string dcS] wx fun e w' => e = .returned (.int .i64 0) ∧ wx = w' := fun wx => by
      have := untilW_any (a0.extract i a0.size) dcP dcS wx (by rw [ByteArray.size_extract]; omega) (by decide) (by decide)
      rw [hu] at this; exact this
    have CH := hide C
    have DH := hide D
    have UH := hide U
    clear C D U hu k1 g1 hz c0 c1
    go_enter Try.func5, Try.ntmps5
    go_wp2_with (first | (go_at_call 7; refine (inside_any _ _ _ _ W0.out).mono ?_; rintro e w' ⟨rfl, rfl⟩) | (go_at_call 8; refine (headed_any _ _ _).mono ?_; rintro e w' ⟨rfl, rfl⟩) | (go_at_call 17; refine (CH.out _).mono ?_; rintro e w1 ⟨rfl, hb1⟩; replace hbz := hbz.trans (hb1.mono hbz.size)))
    go_region_with (first | (go_at_call 11; refine (UH.out _).mono ?_; rintro e w' ⟨rfl, rfl⟩) | (go_at_call 10; refine (DH.out _).mono ?_; rintro e w3 ⟨rfl, hb3⟩))
    all_goals
      go_wp2
      go_ret
      exact ⟨rfl, ((hbz.alloc hbz.size _).drew).trans (hb3.mono (by have := hbz.size; simp; omega))⟩

/-! The row's step, as the shell has it -/
set_option maxRecDepth 100000 in
theorem lifted (os : Os) (started : os.Started) (H : Type) (enc : TypeId × Value → H) :
    ReturnsInHanded {} Try.checked os 5 .any (Rows.fnDeclarationSpec.pre6 enc Try.prog Try.f5 Rows.fnDeclarationRow.domain false) (Rows.fnDeclarationSpec.post enc Try.prog Try.f5 false true false false) := by
  refine returnsInHanded_of_change (C := Try.checked) own started (by kernel_rfl) Try.func5
    (ChangeSpec.witness6 (enc := enc) (C := Try.checked) false ⟨#[], #[.string ByteArray.empty, .int .i64 0], []⟩ 8 (by kernel_rfl) (by kernel_rfl) (by kernel_rfl) (by kernel_rfl)) ?_
  intro W base args ds gs before hval0 hW hcnd _
  have hval : ∀ (j : Nat) t v, Try.f5.params[j]? = some t → args[j]? = some v → Value.okWide Try.prog W .any base t v := hval0
  have hW' := hW
  obtain ⟨p, q, hA0, hV, rfl, hfz, hnd⟩ := hW
  have hA : DataW.TrodAll enc Try.prog W 0 (fun _ => true) true Try.f5.params.toList args.toList ds p := hA0
  rw [Try.params5] at hA hval
  obtain ⟨v0, vs0, d0, ds0, p0, q0, hargs, rfl, rfl, h0, r0⟩ := trodAll_cons hA
  obtain ⟨v1, vs1, d1, ds1, p1, q1, rfl, rfl, rfl, h1, r1⟩ := trodAll_cons r0
  obtain ⟨rfl, rfl, rfl⟩ := trodAll_nil r1
  obtain rfl : args = #[v0, v1] := by cases args; simp_all
  obtain ⟨rfl, rfl⟩ := trodVars_none hV
  obtain ⟨a0, rfl, rfl, rfl, w0⟩ := open_string Try.underlying9 (hval 0 9 v0 rfl rfl) h0
  obtain ⟨a1, rfl, rfl, rfl, w1⟩ := open_int Try.underlying3 (hval 1 3 v1 rfl rfl) h1
  clear hA0 hval0
  simp only [List.append_nil] at hW'
  refine (walk a0 a1 w0 w1 W).mono fun e W' ⟨he, hg⟩ => ?_
  subst he
  exact ⟨_, rfl, post_of_below (pa := []) (pv := []) hW' (fun _ _ _ => (trodAll_cons_mk (shut_bool Try.underlying4 _) trodAll_mk0)) (fun sp _ => (trodAll_cons_mk (shut_string Try.underlying9 w0) (trodAll_cons_mk (shut_int Try.underlying3 w1) trodAll_mk0))) (fun _ _ => rfl) rfl
    hg (ok_one (by kernel_rfl) rfl (okWide_bool_mk Try.underlying4 _))⟩

theorem over : Rows.fnDeclarationRow.holds Try.pinned (OpenSpec.ofChange Rows.fnDeclarationSpec) :=
  OpenClaim.holds_of_wide 5 Try.f5 rfl rfl rfl rfl rfl rfl rfl ⟨rfl, rfl, rfl, rfl, rfl⟩ rfl rfl rfl rfl rfl (by kernel_rfl) Try.func5 (by kernel_rfl)
    (of_decide_eq_true (by kernel_rfl)) (by unfold Func.isWrapper; first | (rw [if_pos (by decide +kernel)]; kernel_rfl) | (rw [if_neg (by decide +kernel)]; exact ⟨rfl, rfl⟩))
    (fun os started H enc _ => lifted os started H enc)

/-- The statement. -/
theorem proved : Rows.FnDeclarationSaid :=
  over
#print axioms proved
end Go.Proofs.Ytbgikebimaijlaa.fnDeclaration
