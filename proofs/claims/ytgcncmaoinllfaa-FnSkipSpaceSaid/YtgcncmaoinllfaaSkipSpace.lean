/- Proves Rows.FnSkipSpaceSaid: for every text and every place FnSkipSpace returns true and the arguments read as before; no condition. The frame is the shell that the kit's proof-skeleton.mjs prints. -/
import Derived.Test.YtgcncmaoinllfaaRows
import Derived.WalkKit
import Derived.ProofKit
import Derived.OpenShut
import Derived.ShutString
import Derived.Test.YtgcncmaoinllfaaBase
import Derived.Test.YtgcncmaoinllfaaTexts
import Derived.Test.YtgcncmaoinllfaaSkip
import Derived.Test.YtgcncmaoinllfaaWithout
namespace Go.Proofs.Ytgcncmaoinllfaa.fnSkipSpace
open Go.ChangeShapes Go.WideShapes Go.ChangeAt Go.RowKit
open Go.ChangeMaps (open_string shut_string)
set_option linter.unusedVariables false

theorem own : ownKnob Try.prog.godebug = none := by kernel_rfl

set_option maxHeartbeats 1000000 in
theorem walk (a0 : ByteArray) (a1 : Int) (w0 : a0.size ≤ maxLen) (w1 : (Lit.int .i64 a1).wf = true) (w : World) :
    Calls Try.prog 4 #[.string a0, .int .i64 a1] w fun e w' => e = .returned (.bool true) ∧ Below w.heap.size w w' := by
  have W0 := hide w0
  unfold maxLen at w0
  clear w1
  by_cases h1 : 2147483647 < (a0.size : Int)
  · go_enter Try.func4, Try.ntmps4
    go_wp2
    go_ret
    exact ⟨rfl, Below.refl _ _⟩
  by_cases h2 : 2000 < (a0.size : Int)
  · go_enter Try.func4, Try.ntmps4
    go_wp2
    go_ret
    exact ⟨rfl, Below.refl _ _⟩
  by_cases h3 : a1 < 0
  · go_enter Try.func4, Try.ntmps4
    go_wp2
    go_ret
    exact ⟨rfl, Below.refl _ _⟩
  by_cases h4 : (a0.size : Int) < a1
  · go_enter Try.func4, Try.ntmps4
    go_wp2
    go_ret
    exact ⟨rfl, Below.refl _ _⟩
  obtain ⟨i, rfl⟩ := Int.eq_ofNat_of_zero_le (show 0 ≤ a1 by omega)
  have hi : i ≤ a0.size := by omega
  have hb := get_bt a0
  go_enter Try.func4, Try.ntmps4
  go_wp2_with (first | (go_at_call 13; refine (withoutByte_any _ _).mono ?_; rintro e w1 ⟨t, rfl, ht, hb1⟩) | (go_at_call 12; refine (only_any _ _ _ _ W0.out).mono ?_; rintro e w' ⟨rfl, rfl⟩; cases onlyB a0 (t ++ ⟨#[9, 10]⟩) 2000))
  · go_ret
    exact ⟨rfl, hb1⟩
  · go_loop [5] (fun i' => ∃ k : Nat, i ≤ k ∧ k ≤ a0.size ∧ i' = .int .i64 k ∧ Hid (∀ j, i ≤ j → j < k → blB (bt a0 j) = true)) (fun i => a0.size - (intOf i).toNat)
    case atStart => exact ⟨i, by omega, by omega, rfl, fun j h h' => absurd h (by omega)⟩
    case round =>
      obtain ⟨k, hik, hk, rfl, hn⟩ := hrel
      by_cases hlt : k < a0.size
      · by_cases hA : blB (bt a0 k) = true
        · have hA2 := hide hA
          have h0 : bt a0 k = 32 ∨ bt a0 k = 9 ∨ bt a0 k = 10 := by simpa [blB] using hA
          clear hA
          have hend : ∀ j, i ≤ j → j < k + 1 → blB (bt a0 j) = true := by
            intro j h1 h2
            by_cases e : j = k
            · subst e; exact hA2.out
            · exact hn j h1 (by omega)
          have hE := hide hend
          clear hend
          rcases h0 with h0 | h0 | h0
          all_goals
            go_wp2
            go_round
            case rel => exact ⟨k + 1, by omega, by omega, by go_num, hE⟩
            case measure => simp [intOf]; omega
        · have hA : blB (bt a0 k) = false := by simpa using hA
          have hA2 := hide (scan_eq hik hk (fun j a b => hn j a b) (.inr hA))
          have h0 : ¬ (bt a0 k = 32 ∨ bt a0 k = 9 ∨ bt a0 k = 10) := by simpa [blB] using hA
          have h1 : (bt a0 k == 32) = false := by simp; omega
          have h2 : (bt a0 k == 9) = false := by simp; omega
          have h3 : (bt a0 k == 10) = false := by simp; omega
          clear hA h0
          go_wp2_with (first | (go_at_call 41; refine (skipSpace_any _ _ _ W0.out hi).mono ?_; rintro e w' ⟨rfl, rfl⟩) | go_in)
          go_ret
          exact ⟨ret_bool (by rw [hA2.out]; simp), hb1⟩
      · obtain rfl : k = a0.size := by omega
        have hA2 := hide (scan_eq hik hk (fun j a b => hn j a b) (.inl rfl))
        go_wp2_with (first | (go_at_call 41; refine (skipSpace_any _ _ _ W0.out hi).mono ?_; rintro e w' ⟨rfl, rfl⟩) | go_in)
        go_ret
        exact ⟨ret_bool (by rw [hA2.out]; simp), hb1⟩

/-! The row's step, as the shell has it -/
set_option maxRecDepth 100000 in
theorem lifted (os : Os) (started : os.Started) (H : Type) (enc : TypeId × Value → H) :
    ReturnsInHanded {} Try.checked os 4 .any (Rows.fnSkipSpaceSpec.pre6 enc Try.prog Try.f4 Rows.fnSkipSpaceRow.domain false) (Rows.fnSkipSpaceSpec.post enc Try.prog Try.f4 false true false false) := by
  refine returnsInHanded_of_change (C := Try.checked) own started (by kernel_rfl) Try.func4
    (ChangeSpec.witness6 (enc := enc) (C := Try.checked) false ⟨#[], #[.string ByteArray.empty, .int .i64 0], []⟩ 8 (by kernel_rfl) (by kernel_rfl) (by kernel_rfl) (by kernel_rfl)) ?_
  intro W base args ds gs before hval0 hW hcnd _
  have hval : ∀ (j : Nat) t v, Try.f4.params[j]? = some t → args[j]? = some v → Value.okWide Try.prog W .any base t v := hval0
  have hW' := hW
  obtain ⟨p, q, hA0, hV, rfl, hfz, hnd⟩ := hW
  have hA : DataW.TrodAll enc Try.prog W 0 (fun _ => true) true Try.f4.params.toList args.toList ds p := hA0
  rw [Try.params4] at hA hval
  obtain ⟨v0, vs0, d0, ds0, p0, q0, hargs, rfl, rfl, h0, r0⟩ := trodAll_cons hA
  obtain ⟨v1, vs1, d1, ds1, p1, q1, rfl, rfl, rfl, h1, r1⟩ := trodAll_cons r0
  obtain ⟨rfl, rfl, rfl⟩ := trodAll_nil r1
  obtain rfl : args = #[v0, v1] := by cases args; simp_all
  obtain ⟨rfl, rfl⟩ := trodVars_none hV
  obtain ⟨a0, rfl, rfl, rfl, w0⟩ := open_string Try.underlying9 (hval 0 9 v0 rfl rfl) h0
  obtain ⟨a1, rfl, rfl, rfl, w1⟩ := open_int Try.underlying3 (hval 1 3 v1 rfl rfl) h1
  clear hA0 hval0
  simp only [List.append_nil] at hW'
  refine (walk a0 a1 w0 w1 W).mono fun e W' ⟨he, hg⟩ => ?_
  subst he
  exact ⟨_, rfl, post_of_below (pa := []) (pv := []) hW' (fun _ _ _ => (trodAll_cons_mk (shut_bool Try.underlying4 _) trodAll_mk0)) (fun sp _ => (trodAll_cons_mk (shut_string Try.underlying9 w0) (trodAll_cons_mk (shut_int Try.underlying3 w1) trodAll_mk0))) (fun _ _ => rfl) rfl
    hg (ok_one (by kernel_rfl) rfl (okWide_bool_mk Try.underlying4 _))⟩

theorem over : Rows.fnSkipSpaceRow.holds Try.pinned (OpenSpec.ofChange Rows.fnSkipSpaceSpec) :=
  OpenClaim.holds_of_wide 4 Try.f4 rfl rfl rfl rfl rfl rfl rfl ⟨rfl, rfl, rfl, rfl, rfl⟩ rfl rfl rfl rfl rfl (by kernel_rfl) Try.func4 (by kernel_rfl)
    (of_decide_eq_true (by kernel_rfl)) (by unfold Func.isWrapper; first | (rw [if_pos (by decide +kernel)]; kernel_rfl) | (rw [if_neg (by decide +kernel)]; exact ⟨rfl, rfl⟩))
    (fun os started H enc _ => lifted os started H enc)

/-- The statement. -/
theorem proved : Rows.FnSkipSpaceSaid :=
  over
#print axioms proved
end Go.Proofs.Ytgcncmaoinllfaa.fnSkipSpace
