/- Proves Rows.FnDomainSaid: for all arguments FnDomain returns true and the arguments read as before; no condition. The frame is the shell that the kit's proof-skeleton.mjs prints. -/
import Derived.Test.YtgcncmaoinllfaaRows
import Derived.WalkKit
import Derived.ProofKit
import Derived.OpenShut
import Derived.ShutString
import Derived.Test.YtgcncmaoinllfaaBase
import Derived.Test.YtgcncmaoinllfaaDomain
namespace Go.Proofs.Ytgcncmaoinllfaa.fnDomain
open Go.ChangeShapes Go.WideShapes Go.ChangeAt Go.RowKit
open Go.ChangeMaps (open_string shut_string)
set_option linter.unusedVariables false

theorem own : ownKnob Try.prog.godebug = none := by kernel_rfl

def okS (s : ByteArray) : Prop := ∀ k, k < s.size → ldB (bt s k) = true ∨ bt s k = 46
theorem okS_app {a b : ByteArray} (ha : okS a) (hb : okS b) : okS (a ++ b) := by
  intro k hk
  rw [ByteArray.size_append] at hk
  by_cases h : k < a.size
  · rw [bt_left a b h]; exact ha k h
  · have := bt_right a b (k - a.size)
    rw [show a.size + (k - a.size) = k by omega] at this
    rw [this]; exact hb _ (by omega)
theorem okS_dot : okS ⟨#[46]⟩ := by
  intro k hk
  have h1 : k < 1 := hk
  obtain rfl : k = 0 := by omega
  right; decide
theorem wA_ld : ∀ n : Fin 256, (!inA wA (n.val : Int) || ldB (n.val : Int)) = true := by decide +kernel
theorem word_parts {s : ByteArray} (h : wordB s = true) : 0 < s.size ∧ s.size ≤ 20 ∧ okS s := by
  unfold wordB onlyB at h
  rw [Bool.and_eq_true, Bool.and_eq_true] at h
  obtain ⟨h1, h2, h3⟩ := h
  refine ⟨by simpa using h1, by have := of_decide_eq_true h2; omega, fun k hk => ?_⟩
  have h4 := allB_all h3 k hk
  have h5 := byte_all (q := fun c => !inA wA c || ldB c) wA_ld s k
  simp only [h4] at h5
  exact .inl (by simpa using h5)
theorem head_parts {s : ByteArray} (h : onlyB s ⟨#[97, 98, 32, 46]⟩ 10 = true) : s.size ≤ 10 := by
  unfold onlyB at h
  rw [Bool.and_eq_true] at h
  have := of_decide_eq_true h.1; omega
set_option maxHeartbeats 1000000 in
theorem validDomain_any (T : ByteArray) (i m : Nat) (w : World) (hs : T.size ≤ maxLen) (him : i < m) (hm : m < T.size)
    (ha : ∀ k, i ≤ k → k < m → ldB (bt T k) = true ∨ bt T k = 46) (he : bt T m = 32) :
    Calls Try.prog 23 #[.string T, .int .i64 i] w fun e w' => e = .returned (.tuple #[.int .i64 ((m - i : Nat) : Int), .bool true]) ∧ Below w.heap.size w w' := by
  have HA := hide ha
  have HE := hide he
  clear ha he
  go_enter Try.func23, Try.ntmps23
  go_wp2_with (first | (go_at_call 47; refine (parseVD_any T i m w.heap.size _ hs him hm HA.out HE.out (by simp) (by simp)).mono ?_; rintro e w' ⟨rfl, rfl⟩) | go_in)
  go_ret2
  exact ⟨rfl, (Below.refl _ _).alloc (Nat.le_refl _) _⟩
theorem joined {h s : ByteArray} (ok : okS s) (hs : 0 < s.size) : (h.size < h.size + s.size) ∧ (h.size + s.size < ((h ++ s) ++ ⟨#[32, 120]⟩).size) ∧
    (∀ k, h.size ≤ k → k < h.size + s.size → ldB (bt ((h ++ s) ++ ⟨#[32, 120]⟩) k) = true ∨ bt ((h ++ s) ++ ⟨#[32, 120]⟩) k = 46) ∧ bt ((h ++ s) ++ ⟨#[32, 120]⟩) (h.size + s.size) = 32 := by
  have h2 : (⟨#[32, 120]⟩ : ByteArray).size = 2 := rfl
  refine ⟨by omega, by rw [ByteArray.size_append, ByteArray.size_append, h2]; omega, fun k a b => ?_, ?_⟩
  · rw [bt_left _ _ (by rw [ByteArray.size_append]; omega)]
    have := bt_right h s (k - h.size)
    rw [show h.size + (k - h.size) = k by omega] at this
    rw [this]
    exact ok _ (by omega)
  · have := bt_right (h ++ s) ⟨#[32, 120]⟩ 0
    rw [ByteArray.size_append, Nat.add_zero] at this
    rw [this]; decide
theorem validS_any (h s : ByteArray) (w : World) (ok : okS s) (hs : 0 < s.size) (h1 : h.size ≤ 10) (h2 : s.size ≤ 100) :
    Calls Try.prog 23 #[.string ((h ++ s) ++ ⟨#[32, 120]⟩), .int .i64 h.size] w fun e w' => e = .returned (.tuple #[.int .i64 (s.size : Int), .bool true]) ∧ Below w.heap.size w w' := by
  obtain ⟨j1, j2, j3, j4⟩ := joined (h := h) ok hs
  have hz : ((h ++ s) ++ ⟨#[32, 120]⟩ : ByteArray).size = h.size + s.size + 2 := by rw [ByteArray.size_append, ByteArray.size_append]; rfl
  refine (validDomain_any _ h.size (h.size + s.size) w (by rw [hz]; unfold maxLen; omega) j1 j2 j3 j4).mono ?_
  rintro e w' ⟨rfl, hb⟩
  exact ⟨ret_int2 (by omega), hb⟩
set_option maxHeartbeats 2000000 in
theorem walk (a0 : ByteArray) (a1 : ByteArray) (a2 : ByteArray) (a3 : ByteArray) (a4 : Bool) (w0 : a0.size ≤ maxLen) (w1 : a1.size ≤ maxLen) (w2 : a2.size ≤ maxLen) (w3 : a3.size ≤ maxLen) (w : World) :
    Calls Try.prog 8 #[.string a0, .string a1, .string a2, .string a3, .bool a4] w fun e w' => e = .returned (.bool true) ∧ Below w.heap.size w w' := by
  have W0 := hide w0
  have W1 := hide w1
  have W2 := hide w2
  have W3 := hide w3
  unfold maxLen at w0 w1 w2 w3
  by_cases h0 : 2147483647 < (a0.size : Int)
  · go_enter Try.func8, Try.ntmps8
    go_wp2
    go_ret
    exact ⟨rfl, Below.refl _ _⟩
  by_cases h1 : 2147483647 < (a1.size : Int)
  · go_enter Try.func8, Try.ntmps8
    go_wp2
    go_ret
    exact ⟨rfl, Below.refl _ _⟩
  by_cases h2 : 2147483647 < (a2.size : Int)
  · go_enter Try.func8, Try.ntmps8
    go_wp2
    go_ret
    exact ⟨rfl, Below.refl _ _⟩
  by_cases h3 : 2147483647 < (a3.size : Int)
  · go_enter Try.func8, Try.ntmps8
    go_wp2
    go_ret
    exact ⟨rfl, Below.refl _ _⟩
  by_cases g0 : onlyB a0 ⟨#[97, 98, 32, 46]⟩ 10 = true
  case neg =>
    have g0 : onlyB a0 ⟨#[97, 98, 32, 46]⟩ 10 = false := by simpa using g0
    go_enter Try.func8, Try.ntmps8
    go_wp2_with (go_at_call 12; refine (only_any _ _ _ _ W0.out).mono ?_; rintro e w' ⟨rfl, rfl⟩)
    go_ret
    exact ⟨rfl, Below.refl _ _⟩
  by_cases g1 : wordB a1 = true
  case neg =>
    have g1 : wordB a1 = false := by simpa using g1
    go_enter Try.func8, Try.ntmps8
    go_wp2_with (first | (go_at_call 12; refine (only_any _ _ _ _ W0.out).mono ?_; rintro e w' ⟨rfl, rfl⟩) | (go_at_call 22; refine (word_any _ _ W1.out).mono ?_; rintro e w' ⟨rfl, rfl⟩))
    go_ret
    exact ⟨rfl, Below.refl _ _⟩
  by_cases g2 : wordB a2 = true
  case neg =>
    have g2 : wordB a2 = false := by simpa using g2
    go_enter Try.func8, Try.ntmps8
    go_wp2_with (first | (go_at_call 12; refine (only_any _ _ _ _ W0.out).mono ?_; rintro e w' ⟨rfl, rfl⟩) | (go_at_call_of 22 (Value.string a1); refine (word_any _ _ W1.out).mono ?_; rintro e w' ⟨rfl, rfl⟩) | (go_at_call_of 22 (Value.string a2); refine (word_any _ _ W2.out).mono ?_; rintro e w' ⟨rfl, rfl⟩))
    go_ret
    exact ⟨rfl, Below.refl _ _⟩
  by_cases g3 : wordB a3 = true
  case neg =>
    have g3 : wordB a3 = false := by simpa using g3
    go_enter Try.func8, Try.ntmps8
    go_wp2_with (first | (go_at_call 12; refine (only_any _ _ _ _ W0.out).mono ?_; rintro e w' ⟨rfl, rfl⟩) | (go_at_call_of 22 (Value.string a1); refine (word_any _ _ W1.out).mono ?_; rintro e w' ⟨rfl, rfl⟩) | (go_at_call_of 22 (Value.string a2); refine (word_any _ _ W2.out).mono ?_; rintro e w' ⟨rfl, rfl⟩) | (go_at_call_of 22 (Value.string a3); refine (word_any _ _ W3.out).mono ?_; rintro e w' ⟨rfl, rfl⟩))
    go_ret
    exact ⟨rfl, Below.refl _ _⟩
  have p0 := head_parts g0
  obtain ⟨p1, q1, k1⟩ := word_parts g1
  obtain ⟨p2, q2, k2⟩ := word_parts g2
  obtain ⟨p3, q3, k3⟩ := word_parts g3
  have K1 := hide (okS_app (okS_app k1 okS_dot) k2)
  have K2 := hide (okS_app (okS_app (okS_app k1 okS_dot) k2) (okS_app okS_dot k3))
  clear k1 k2 k3
  cases a4
  · have C := fun wx => validS_any a0 _ wx K1.out (by simp only [ByteArray.size_append]; omega) p0 (by simp only [ByteArray.size_append]; have : (⟨#[46]⟩ : ByteArray).size = 1 := rfl; omega)
    have CH := hide C
    clear C
    go_enter Try.func8, Try.ntmps8
    go_wp2_with (first | (go_at_call 12; refine (only_any _ _ _ _ W0.out).mono ?_; rintro e w' ⟨rfl, rfl⟩) | (go_at_call_of 22 (Value.string a1); refine (word_any _ _ W1.out).mono ?_; rintro e w' ⟨rfl, rfl⟩) | (go_at_call_of 22 (Value.string a2); refine (word_any _ _ W2.out).mono ?_; rintro e w' ⟨rfl, rfl⟩) | (go_at_call_of 22 (Value.string a3); refine (word_any _ _ W3.out).mono ?_; rintro e w' ⟨rfl, rfl⟩) | (go_at_call 23; refine (CH.out _).mono ?_; rintro e w1 ⟨rfl, hb1⟩))
    all_goals
      go_ret
      exact ⟨ret_bool (by simp), hb1⟩
  · have C := fun wx => validS_any a0 _ wx K2.out (by simp only [ByteArray.size_append]; omega) p0 (by simp only [ByteArray.size_append]; have : (⟨#[46]⟩ : ByteArray).size = 1 := rfl; omega)
    have CH := hide C
    clear C
    go_enter Try.func8, Try.ntmps8
    go_wp2_with (first | (go_at_call 12; refine (only_any _ _ _ _ W0.out).mono ?_; rintro e w' ⟨rfl, rfl⟩) | (go_at_call_of 22 (Value.string a1); refine (word_any _ _ W1.out).mono ?_; rintro e w' ⟨rfl, rfl⟩) | (go_at_call_of 22 (Value.string a2); refine (word_any _ _ W2.out).mono ?_; rintro e w' ⟨rfl, rfl⟩) | (go_at_call_of 22 (Value.string a3); refine (word_any _ _ W3.out).mono ?_; rintro e w' ⟨rfl, rfl⟩) | (go_at_call 23; refine (CH.out _).mono ?_; rintro e w1 ⟨rfl, hb1⟩))
    all_goals
      go_ret
      exact ⟨ret_bool (by simp), hb1⟩

/-! The row's step, as the shell has it -/
set_option maxRecDepth 100000 in
theorem lifted (os : Os) (started : os.Started) (H : Type) (enc : TypeId × Value → H) :
    ReturnsInHanded {} Try.checked os 8 .any (Rows.fnDomainSpec.pre6 enc Try.prog Try.f8 Rows.fnDomainRow.domain false) (Rows.fnDomainSpec.post enc Try.prog Try.f8 false true false false) := by
  refine returnsInHanded_of_change (C := Try.checked) own started (by kernel_rfl) Try.func8
    (ChangeSpec.witness6 (enc := enc) (C := Try.checked) false ⟨#[], #[.string ByteArray.empty, .string ByteArray.empty, .string ByteArray.empty, .string ByteArray.empty, .bool false], []⟩ 8 (by kernel_rfl) (by kernel_rfl) (by kernel_rfl) (by kernel_rfl)) ?_
  intro W base args ds gs before hval0 hW hcnd _
  have hval : ∀ (j : Nat) t v, Try.f8.params[j]? = some t → args[j]? = some v → Value.okWide Try.prog W .any base t v := hval0
  have hW' := hW
  obtain ⟨p, q, hA0, hV, rfl, hfz, hnd⟩ := hW
  have hA : DataW.TrodAll enc Try.prog W 0 (fun _ => true) true Try.f8.params.toList args.toList ds p := hA0
  rw [Try.params8] at hA hval
  obtain ⟨v0, vs0, d0, ds0, p0, q0, hargs, rfl, rfl, h0, r0⟩ := trodAll_cons hA
  obtain ⟨v1, vs1, d1, ds1, p1, q1, rfl, rfl, rfl, h1, r1⟩ := trodAll_cons r0
  obtain ⟨v2, vs2, d2, ds2, p2, q2, rfl, rfl, rfl, h2, r2⟩ := trodAll_cons r1
  obtain ⟨v3, vs3, d3, ds3, p3, q3, rfl, rfl, rfl, h3, r3⟩ := trodAll_cons r2
  obtain ⟨v4, vs4, d4, ds4, p4, q4, rfl, rfl, rfl, h4, r4⟩ := trodAll_cons r3
  obtain ⟨rfl, rfl, rfl⟩ := trodAll_nil r4
  obtain rfl : args = #[v0, v1, v2, v3, v4] := by cases args; simp_all
  obtain ⟨rfl, rfl⟩ := trodVars_none hV
  obtain ⟨a0, rfl, rfl, rfl, w0⟩ := open_string Try.underlying9 (hval 0 9 v0 rfl rfl) h0
  obtain ⟨a1, rfl, rfl, rfl, w1⟩ := open_string Try.underlying9 (hval 1 9 v1 rfl rfl) h1
  obtain ⟨a2, rfl, rfl, rfl, w2⟩ := open_string Try.underlying9 (hval 2 9 v2 rfl rfl) h2
  obtain ⟨a3, rfl, rfl, rfl, w3⟩ := open_string Try.underlying9 (hval 3 9 v3 rfl rfl) h3
  obtain ⟨a4, rfl, rfl, rfl⟩ := open_bool Try.underlying4 (hval 4 4 v4 rfl rfl) h4
  clear hA0 hval0
  simp only [List.append_nil] at hW'
  refine (walk a0 a1 a2 a3 a4 w0 w1 w2 w3 W).mono fun e W' ⟨he, hg⟩ => ?_
  subst he
  exact ⟨_, rfl, post_of_below (pa := []) (pv := []) hW' (fun _ _ _ => (trodAll_cons_mk (shut_bool Try.underlying4 _) trodAll_mk0)) (fun sp _ => (trodAll_cons_mk (shut_string Try.underlying9 w0) (trodAll_cons_mk (shut_string Try.underlying9 w1) (trodAll_cons_mk (shut_string Try.underlying9 w2) (trodAll_cons_mk (shut_string Try.underlying9 w3) (trodAll_cons_mk (shut_bool Try.underlying4 _) trodAll_mk0)))))) (fun _ _ => rfl) rfl
    hg (ok_one (by kernel_rfl) rfl (okWide_bool_mk Try.underlying4 _))⟩

theorem over : Rows.fnDomainRow.holds Try.pinned (OpenSpec.ofChange Rows.fnDomainSpec) :=
  OpenClaim.holds_of_wide 8 Try.f8 rfl rfl rfl rfl rfl rfl rfl ⟨rfl, rfl, rfl, rfl, rfl⟩ rfl rfl rfl rfl rfl (by kernel_rfl) Try.func8 (by kernel_rfl)
    (of_decide_eq_true (by kernel_rfl)) (by unfold Func.isWrapper; first | (rw [if_pos (by decide +kernel)]; kernel_rfl) | (rw [if_neg (by decide +kernel)]; exact ⟨rfl, rfl⟩))
    (fun os started H enc _ => lifted os started H enc)

/-- The statement. -/
theorem proved : Rows.FnDomainSaid :=
  over
#print axioms proved
end Go.Proofs.Ytgcncmaoinllfaa.fnDomain
