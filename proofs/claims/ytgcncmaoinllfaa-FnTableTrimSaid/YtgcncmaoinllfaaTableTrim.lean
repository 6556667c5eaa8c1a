/- Proves Rows.FnTableTrimSaid: for every text FnTableTrim returns true and the argument reads as before; no condition. The frame is the shell that the kit's proof-skeleton.mjs prints. -/
import Derived.Test.YtgcncmaoinllfaaRows
import Derived.WalkKit
import Derived.ProofKit
import Derived.OpenShut
import Derived.ShutString
import Derived.Test.YtgcncmaoinllfaaBase
import Derived.Test.YtgcncmaoinllfaaTrim
namespace Go.Proofs.Ytgcncmaoinllfaa.fnTableTrim
open Go.ChangeShapes Go.WideShapes Go.ChangeAt Go.RowKit
open Go.ChangeMaps (open_string shut_string)
set_option linter.unusedVariables false

theorem own : ownKnob Try.prog.godebug = none := by kernel_rfl

theorem scanF_congr {p q : Int → Bool} (s : ByteArray) (h : ∀ k, p (bt s k) = q (bt s k)) : ∀ n i, scanF p s n i = scanF q s n i
  | 0, i => rfl
  | n + 1, i => by unfold scanF; rw [h i, scanF_congr s h n (i + 1)]
theorem backF_congr {p q : Int → Bool} (s : ByteArray) (h : ∀ k, p (bt s k) = q (bt s k)) (i : Nat) : ∀ j, backF p s i j = backF q s i j
  | 0 => rfl
  | j + 1 => by unfold backF; rw [h j, backF_congr s h i j]
theorem trimE_congr {p q : Int → Bool} (s : ByteArray) (h : ∀ k, p (bt s k) = q (bt s k)) : trimE p s = trimE q s := by
  unfold trimE scan
  rw [scanF_congr s h, backF_congr s h]
theorem ts_all : ∀ n : Fin 256, tsB (n.val : Int) = inA ⟨#[32, 9, 11, 12]⟩ (n.val : Int) := by decide +kernel
theorem ts_in (s : ByteArray) (k : Nat) : tsB (bt s k) = inA ⟨#[32, 9, 11, 12]⟩ (bt s k) := by
  have h0 := bt_nonneg s k
  have h1 := bt_le s k
  have h2 := ts_all ⟨(bt s k).toNat, by omega⟩
  have e : ((bt s k).toNat : Int) = bt s k := by omega
  simp only [e] at h2
  exact h2
set_option maxHeartbeats 1000000 in
theorem walk (a0 : ByteArray) (w0 : a0.size ≤ maxLen) (w : World) :
    Calls Try.prog 7 #[.string a0] w fun e w' => e = .returned (.bool true) ∧ Below w.heap.size w w' := by
  have W0 := hide w0
  unfold maxLen at w0
  have hT := hide (trimE_congr a0 (ts_in a0))
  by_cases h1 : 2147483647 < (a0.size : Int)
  · go_enter Try.func7, Try.ntmps7
    go_wp2
    go_ret
    exact ⟨rfl, Below.refl _ _⟩
  by_cases h2 : 5000 < (a0.size : Int)
  · go_enter Try.func7, Try.ntmps7
    go_wp2
    go_ret
    exact ⟨rfl, Below.refl _ _⟩
  go_enter Try.func7, Try.ntmps7
  go_wp2_with (first | (go_at_call 46; refine (tableTrimSpace_any _ _ W0.out).mono ?_; rintro e w' ⟨rfl, rfl⟩) | (go_at_call 21; refine (stripped_any _ _ _ W0.out).mono ?_; rintro e w1 ⟨rfl, hb1⟩) | go_in)
  go_ret
  exact ⟨ret_bool (by rw [hT.out]; simp), hb1⟩

/-! The row's step, as the shell has it -/
set_option maxRecDepth 100000 in
theorem lifted (os : Os) (started : os.Started) (H : Type) (enc : TypeId × Value → H) :
    ReturnsInHanded {} Try.checked os 7 .any (Rows.fnTableTrimSpec.pre6 enc Try.prog Try.f7 Rows.fnTableTrimRow.domain false) (Rows.fnTableTrimSpec.post enc Try.prog Try.f7 false true false false) := by
  refine returnsInHanded_of_change (C := Try.checked) own started (by kernel_rfl) Try.func7
    (ChangeSpec.witness6 (enc := enc) (C := Try.checked) false ⟨#[], #[.string ByteArray.empty], []⟩ 8 (by kernel_rfl) (by kernel_rfl) (by kernel_rfl) (by kernel_rfl)) ?_
  intro W base args ds gs before hval0 hW hcnd _
  have hval : ∀ (j : Nat) t v, Try.f7.params[j]? = some t → args[j]? = some v → Value.okWide Try.prog W .any base t v := hval0
  have hW' := hW
  obtain ⟨p, q, hA0, hV, rfl, hfz, hnd⟩ := hW
  have hA : DataW.TrodAll enc Try.prog W 0 (fun _ => true) true Try.f7.params.toList args.toList ds p := hA0
  rw [Try.params7] at hA hval
  obtain ⟨v0, vs0, d0, ds0, p0, q0, hargs, rfl, rfl, h0, r0⟩ := trodAll_cons hA
  obtain ⟨rfl, rfl, rfl⟩ := trodAll_nil r0
  obtain rfl : args = #[v0] := by cases args; simp_all
  obtain ⟨rfl, rfl⟩ := trodVars_none hV
  obtain ⟨a0, rfl, rfl, rfl, w0⟩ := open_string Try.underlying9 (hval 0 9 v0 rfl rfl) h0
  clear hA0 hval0
  simp only [List.append_nil] at hW'
  refine (walk a0 w0 W).mono fun e W' ⟨he, hg⟩ => ?_
  subst he
  exact ⟨_, rfl, post_of_below (pa := []) (pv := []) hW' (fun _ _ _ => (trodAll_cons_mk (shut_bool Try.underlying4 _) trodAll_mk0)) (fun sp _ => (trodAll_cons_mk (shut_string Try.underlying9 w0) trodAll_mk0)) (fun _ _ => rfl) rfl
    hg (ok_one (by kernel_rfl) rfl (okWide_bool_mk Try.underlying4 _))⟩

theorem over : Rows.fnTableTrimRow.holds Try.pinned (OpenSpec.ofChange Rows.fnTableTrimSpec) :=
  OpenClaim.holds_of_wide 7 Try.f7 rfl rfl rfl rfl rfl rfl rfl ⟨rfl, rfl, rfl, rfl, rfl⟩ rfl rfl rfl rfl rfl (by kernel_rfl) Try.func7 (by kernel_rfl)
    (of_decide_eq_true (by kernel_rfl)) (by unfold Func.isWrapper; first | (rw [if_pos (by decide +kernel)]; kernel_rfl) | (rw [if_neg (by decide +kernel)]; exact ⟨rfl, rfl⟩))
    (fun os started H enc _ => lifted os started H enc)

/-- The statement. -/
theorem proved : Rows.FnTableTrimSaid :=
  over
#print axioms proved
end Go.Proofs.Ytgcncmaoinllfaa.fnTableTrim
