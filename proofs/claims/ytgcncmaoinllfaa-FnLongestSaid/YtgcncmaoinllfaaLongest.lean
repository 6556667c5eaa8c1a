/- Proves Rows.FnLongestSaid: for every text and every byte FnLongest returns true and the arguments read as before; no condition. The frame is the shell that the kit's proof-skeleton.mjs prints. -/
import Derived.Test.YtgcncmaoinllfaaRows
import Derived.WalkKit
import Derived.ProofKit
import Derived.OpenShut
import Derived.ShutString
import Derived.Test.YtgcncmaoinllfaaBase
import Derived.Test.YtgcncmaoinllfaaLong
namespace Go.Proofs.Ytgcncmaoinllfaa.fnLongest
open Go.ChangeShapes Go.WideShapes Go.ChangeAt Go.RowKit
open Go.ChangeMaps (open_string shut_string)
set_option linter.unusedVariables false

theorem own : ownKnob Try.prog.godebug = none := by kernel_rfl

theorem aa_two : (max (maxR ⟨#[97, 97]⟩ 97 2) (curR ⟨#[97, 97]⟩ 97 2) : Nat) = 2 := by decide
theorem aa_le : ∀ k, k < (⟨#[97, 97]⟩ : ByteArray).size → bt ⟨#[97, 97]⟩ k ≤ 127 := by decide
theorem aa_any (w : World) : Calls Try.prog 45 #[.string ⟨#[97, 97]⟩, .int .u8 97] w fun e w' => e = .returned (.int .i64 2) ∧ Below w.heap.size w w' := by
  refine (longestSequence_any ⟨#[97, 97]⟩ 97 w (by decide) aa_le).mono ?_
  rintro e w' ⟨rfl, rfl⟩
  exact ⟨ret_int (by have := aa_two; exact congrArg Int.ofNat this), (Below.refl _ _).alloc (Nat.le_refl _) _⟩
set_option maxHeartbeats 1000000 in
theorem walk (a0 : ByteArray) (a1 : Int) (w0 : a0.size ≤ maxLen) (w1 : (Lit.int .u8 a1).wf = true) (w : World) :
    Calls Try.prog 6 #[.string a0, .int .u8 a1] w fun e w' => e = .returned (.bool true) ∧ Below w.heap.size w w' := by
  have W0 := hide w0
  unfold maxLen at w0
  clear w1
  by_cases h1 : 2147483647 < (a0.size : Int)
  · go_enter Try.func6, Try.ntmps6
    go_wp2
    go_ret
    exact ⟨rfl, Below.refl _ _⟩
  by_cases h7 : sevenB a0 2000 = true
  · by_cases h2 : 127 < a1
    · go_enter Try.func6, Try.ntmps6
      go_wp2_with (first | (go_at_call 17; refine (seven_any _ _ _ W0.out).mono ?_; rintro e w' ⟨rfl, rfl⟩) | (go_at_call 45; refine (aa_any _).mono ?_; rintro e w' ⟨rfl, hb⟩) | go_in)
      go_ret
      exact ⟨rfl, hb⟩
    · have ha : ∀ k, k < a0.size → bt a0 k ≤ 127 := by
        intro k hk
        have h8 := h7
        unfold sevenB at h8
        rw [Bool.and_eq_true] at h8
        simpa using allB_all h8.1 k hk
      have HA := hide ha
      clear ha
      go_enter Try.func6, Try.ntmps6
      go_wp2_with (go_at_call 17; refine (seven_any _ _ _ W0.out).mono ?_; rintro e w' ⟨rfl, rfl⟩)
      go_loop [5, 21] (fun m i => ∃ k : Nat, k ≤ a0.size ∧ i = .int .i64 k ∧ m = .int .i64 (topR a0 a1 k : Nat)) (fun _ i => a0.size - (intOf i).toNat)
      case atStart => exact ⟨0, by omega, rfl, rfl⟩
      case round =>
        obtain ⟨k, hk, rfl, rfl⟩ := hrel
        by_cases hlt : k < a0.size
        · have hT : Hid (topR a0 a1 (k + 1) = max (topR a0 a1 k) (runL a0 k a1)) := rfl
          go_wp2_with (go_at_call 19; refine (runLength_any _ _ _ _ W0.out (by omega)).mono ?_; rintro e w' ⟨rfl, rfl⟩)
          go_round
          case rel => exact ⟨k + 1, by omega, by go_num, congrArg (Value.int .i64) (by rw [hT.out]; split <;> omega)⟩
          case measure => simp [intOf]; omega
        · obtain rfl : k = a0.size := by omega
          have hL := hide (longest_eq a0 a1)
          go_wp2_with (first | (go_at_call 45; refine (longestSequence_any _ _ _ W0.out HA.out).mono ?_; rintro e w' ⟨rfl, rfl⟩) | go_in)
          go_ret
          exact ⟨ret_bool (by rw [hL.out]; simp), (Below.refl _ _).alloc (Nat.le_refl _) _⟩
  · have h7 : sevenB a0 2000 = false := by simpa using h7
    go_enter Try.func6, Try.ntmps6
    go_wp2_with (first | (go_at_call 17; refine (seven_any _ _ _ W0.out).mono ?_; rintro e w' ⟨rfl, rfl⟩) | (go_at_call 45; refine (aa_any _).mono ?_; rintro e w' ⟨rfl, hb⟩) | go_in)
    go_ret
    exact ⟨rfl, hb⟩

/-! The row's step, as the shell has it -/
set_option maxRecDepth 100000 in
theorem lifted (os : Os) (started : os.Started) (H : Type) (enc : TypeId × Value → H) :
    ReturnsInHanded {} Try.checked os 6 .any (Rows.fnLongestSpec.pre6 enc Try.prog Try.f6 Rows.fnLongestRow.domain false) (Rows.fnLongestSpec.post enc Try.prog Try.f6 false true false false) := by
  refine returnsInHanded_of_change (C := Try.checked) own started (by kernel_rfl) Try.func6
    (ChangeSpec.witness6 (enc := enc) (C := Try.checked) false ⟨#[], #[.string ByteArray.empty, .int .u8 0], []⟩ 8 (by kernel_rfl) (by kernel_rfl) (by kernel_rfl) (by kernel_rfl)) ?_
  intro W base args ds gs before hval0 hW hcnd _
  have hval : ∀ (j : Nat) t v, Try.f6.params[j]? = some t → args[j]? = some v → Value.okWide Try.prog W .any base t v := hval0
  have hW' := hW
  obtain ⟨p, q, hA0, hV, rfl, hfz, hnd⟩ := hW
  have hA : DataW.TrodAll enc Try.prog W 0 (fun _ => true) true Try.f6.params.toList args.toList ds p := hA0
  rw [Try.params6] at hA hval
  obtain ⟨v0, vs0, d0, ds0, p0, q0, hargs, rfl, rfl, h0, r0⟩ := trodAll_cons hA
  obtain ⟨v1, vs1, d1, ds1, p1, q1, rfl, rfl, rfl, h1, r1⟩ := trodAll_cons r0
  obtain ⟨rfl, rfl, rfl⟩ := trodAll_nil r1
  obtain rfl : args = #[v0, v1] := by cases args; simp_all
  obtain ⟨rfl, rfl⟩ := trodVars_none hV
  obtain ⟨a0, rfl, rfl, rfl, w0⟩ := open_string Try.underlying9 (hval 0 9 v0 rfl rfl) h0
  obtain ⟨a1, rfl, rfl, rfl, w1⟩ := open_int Try.underlying5 (hval 1 5 v1 rfl rfl) h1
  clear hA0 hval0
  simp only [List.append_nil] at hW'
  refine (walk a0 a1 w0 w1 W).mono fun e W' ⟨he, hg⟩ => ?_
  subst he
  exact ⟨_, rfl, post_of_below (pa := []) (pv := []) hW' (fun _ _ _ => (trodAll_cons_mk (shut_bool Try.underlying4 _) trodAll_mk0)) (fun sp _ => (trodAll_cons_mk (shut_string Try.underlying9 w0) (trodAll_cons_mk (shut_int Try.underlying5 w1) trodAll_mk0))) (fun _ _ => rfl) rfl
    hg (ok_one (by kernel_rfl) rfl (okWide_bool_mk Try.underlying4 _))⟩

theorem over : Rows.fnLongestRow.holds Try.pinned (OpenSpec.ofChange Rows.fnLongestSpec) :=
  OpenClaim.holds_of_wide 6 Try.f6 rfl rfl rfl rfl rfl rfl rfl ⟨rfl, rfl, rfl, rfl, rfl⟩ rfl rfl rfl rfl rfl (by kernel_rfl) Try.func6 (by kernel_rfl)
    (of_decide_eq_true (by kernel_rfl)) (by unfold Func.isWrapper; first | (rw [if_pos (by decide +kernel)]; kernel_rfl) | (rw [if_neg (by decide +kernel)]; exact ⟨rfl, rfl⟩))
    (fun os started H enc _ => lifted os started H enc)

/-- The statement. -/
theorem proved : Rows.FnLongestSaid :=
  over
#print axioms proved
end Go.Proofs.Ytgcncmaoinllfaa.fnLongest
