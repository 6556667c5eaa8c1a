/- Proves Rows.FnLineTrimSaid: for all arguments FnLineTrim returns true and the arguments read as before; no condition. The frame is the shell that the kit's proof-skeleton.mjs prints. -/
import Derived.Test.YtgcncmaoinllfaaRows
import Derived.WalkKit
import Derived.ProofKit
import Derived.OpenShut
import Derived.ShutString
import Derived.Test.YtgcncmaoinllfaaBase
import Derived.Test.YtgcncmaoinllfaaLineS
namespace Go.Proofs.Ytgcncmaoinllfaa.fnLineTrim
open Go.ChangeShapes Go.WideShapes Go.ChangeAt Go.RowKit
open Go.ChangeMaps (open_string shut_string)
set_option linter.unusedVariables false

theorem own : ownKnob Try.prog.godebug = none := by kernel_rfl

theorem only200 {s A : ByteArray} (h : onlyB s A 200 = true) : s.size ≤ 200 := by
  unfold onlyB at h
  rw [Bool.and_eq_true] at h
  have := of_decide_eq_true h.1; omega
set_option maxHeartbeats 2000000 in
theorem walk (a0 : ByteArray) (a1 : Int) (a2 : Int) (w0 : a0.size ≤ maxLen) (w1 : (Lit.int .i64 a1).wf = true) (w2 : (Lit.int .i64 a2).wf = true) (w : World) :
    Calls Try.prog 9 #[.string a0, .int .i64 a1, .int .i64 a2] w fun e w' => e = .returned (.bool true) ∧ Below w.heap.size w w' := by
  have W0 := hide w0
  unfold maxLen at w0
  clear w1 w2
  by_cases h1 : 2147483647 < (a0.size : Int)
  · go_enter Try.func9, Try.ntmps9
    go_wp2
    go_ret
    exact ⟨rfl, Below.refl _ _⟩
  by_cases g0 : onlyB a0 ⟨#[97, 98, 32, 9]⟩ 200 = true
  case neg =>
    have g0 : onlyB a0 ⟨#[97, 98, 32, 9]⟩ 200 = false := by simpa using g0
    go_enter Try.func9, Try.ntmps9
    go_wp2_with (go_at_call 12; refine (only_any _ _ _ _ W0.out).mono ?_; rintro e w' ⟨rfl, rfl⟩)
    go_ret
    exact ⟨rfl, Below.refl _ _⟩
  by_cases h2 : a1 < 0
  · go_enter Try.func9, Try.ntmps9
    go_wp2_with (go_at_call 12; refine (only_any _ _ _ _ W0.out).mono ?_; rintro e w' ⟨rfl, rfl⟩)
    go_ret
    exact ⟨rfl, Below.refl _ _⟩
  by_cases h3 : a2 < a1
  · go_enter Try.func9, Try.ntmps9
    go_wp2_with (go_at_call 12; refine (only_any _ _ _ _ W0.out).mono ?_; rintro e w' ⟨rfl, rfl⟩)
    go_ret
    exact ⟨rfl, Below.refl _ _⟩
  by_cases h4 : 100 < a2
  · go_enter Try.func9, Try.ntmps9
    go_wp2_with (go_at_call 12; refine (only_any _ _ _ _ W0.out).mono ?_; rintro e w' ⟨rfl, rfl⟩)
    go_ret
    exact ⟨rfl, Below.refl _ _⟩
  obtain ⟨least, rfl⟩ := Int.eq_ofNat_of_zero_le (show 0 ≤ a1 by omega)
  obtain ⟨most, rfl⟩ := Int.eq_ofNat_of_zero_le (show 0 ≤ a2 by omega)
  have hl : least ≤ most := by omega
  have hm : most ≤ 100 := by omega
  have hs := only200 g0
  obtain ⟨m, sp, i, hF⟩ := fin_ex a0 most
  obtain ⟨W, j, hW⟩ := whole_ex a0
  have hD := whole_fin hW hF hl
  obtain ⟨f1, _, f3⟩ := col_le hF.1
  have HF := hide hF
  have HW := hide hW
  clear hF hW
  by_cases hlm : least ≤ m
  · have hLm := decide_eq_true hlm
    rw [hLm] at hD
    have hWI : (least : Int) ≤ (W : Int) := of_decide_eq_true hD
    have HL := hide hlm
    clear hD hLm hlm
    have C : ∀ wx : World, Calls Try.prog 38 #[.string a0, .int .i64 least, .int .i64 most, .bool false] wx fun e w' => e = .returned (.tuple #[.string (restS sp a0 i), .bool true]) ∧ Below wx.heap.size wx w' := fun wx => (zzLine_any a0 least most m sp i wx hs hm hl HF.out).mono fun e w' h => by
      rw [if_pos HL.out, decide_eq_true HL.out] at h; exact h
    have CH := hide C
    clear C
    have hbz := Below.refl w.heap.size w
    go_enter Try.func9, Try.ntmps9
    go_wp2_with (first | (go_at_call 12; refine (only_any _ _ _ _ W0.out).mono ?_; rintro e w' ⟨rfl, rfl⟩) | (go_at_call 38; refine (CH.out _).mono ?_; rintro e w1 ⟨rfl, hb1⟩; replace hbz := hbz.trans (hb1.mono hbz.size)) | (go_at_call 25; refine (indent_any a0 W j _ hs HW.out).mono ?_; rintro e w1 ⟨rfl, hb1⟩; replace hbz := hbz.trans (hb1.mono hbz.size)) | (go_at_call 26; refine (start_any a0 _).mono ?_; rintro e w1 ⟨rfl, hb1⟩; replace hbz := hbz.trans (hb1.mono hbz.size)) | (go_at_call 28; refine (skip_any a0 most m sp i _ hs hm HF.out).mono ?_; rintro e w1 ⟨rfl, hb1⟩; replace hbz := hbz.trans (hb1.mono hbz.size)) | (go_at_call 27; refine (rest_any a0 i m sp _ hs f1 f3).mono ?_; rintro e w1 ⟨rfl, hb1⟩; replace hbz := hbz.trans (hb1.mono hbz.size)) | (go_at_call 24; go_in))
    go_ret
    exact ⟨ret_bool (by simp), hbz⟩
  · have hLm := decide_eq_false hlm
    rw [hLm] at hD
    have hWI : ¬ (least : Int) ≤ (W : Int) := of_decide_eq_false hD
    have HL := hide hlm
    clear hD hLm hlm
    have C : ∀ wx : World, Calls Try.prog 38 #[.string a0, .int .i64 least, .int .i64 most, .bool false] wx fun e w' => e = .returned (.tuple #[.string a0, .bool false]) ∧ Below wx.heap.size wx w' := fun wx => (zzLine_any a0 least most m sp i wx hs hm hl HF.out).mono fun e w' h => by
      rw [if_neg HL.out, decide_eq_false HL.out] at h; exact h
    have CH := hide C
    clear C
    have hbz := Below.refl w.heap.size w
    go_enter Try.func9, Try.ntmps9
    go_wp2_with (first | (go_at_call 12; refine (only_any _ _ _ _ W0.out).mono ?_; rintro e w' ⟨rfl, rfl⟩) | (go_at_call 38; refine (CH.out _).mono ?_; rintro e w1 ⟨rfl, hb1⟩; replace hbz := hbz.trans (hb1.mono hbz.size)) | (go_at_call 25; refine (indent_any a0 W j _ hs HW.out).mono ?_; rintro e w1 ⟨rfl, hb1⟩; replace hbz := hbz.trans (hb1.mono hbz.size)) | (go_at_call 26; refine (start_any a0 _).mono ?_; rintro e w1 ⟨rfl, hb1⟩; replace hbz := hbz.trans (hb1.mono hbz.size)) | (go_at_call 28; refine (skip_any a0 most m sp i _ hs hm HF.out).mono ?_; rintro e w1 ⟨rfl, hb1⟩; replace hbz := hbz.trans (hb1.mono hbz.size)) | (go_at_call 27; refine (rest_any a0 i m sp _ hs f1 f3).mono ?_; rintro e w1 ⟨rfl, hb1⟩; replace hbz := hbz.trans (hb1.mono hbz.size)) | (go_at_call 24; go_in))
    go_ret
    exact ⟨rfl, hbz⟩

/-! The row's step, as the shell has it -/
set_option maxRecDepth 100000 in
theorem lifted (os : Os) (started : os.Started) (H : Type) (enc : TypeId × Value → H) :
    ReturnsInHanded {} Try.checked os 9 .any (Rows.fnLineTrimSpec.pre6 enc Try.prog Try.f9 Rows.fnLineTrimRow.domain false) (Rows.fnLineTrimSpec.post enc Try.prog Try.f9 false true false false) := by
  refine returnsInHanded_of_change (C := Try.checked) own started (by kernel_rfl) Try.func9
    (ChangeSpec.witness6 (enc := enc) (C := Try.checked) false ⟨#[], #[.string ByteArray.empty, .int .i64 0, .int .i64 0], []⟩ 8 (by kernel_rfl) (by kernel_rfl) (by kernel_rfl) (by kernel_rfl)) ?_
  intro W base args ds gs before hval0 hW hcnd _
  have hval : ∀ (j : Nat) t v, Try.f9.params[j]? = some t → args[j]? = some v → Value.okWide Try.prog W .any base t v := hval0
  have hW' := hW
  obtain ⟨p, q, hA0, hV, rfl, hfz, hnd⟩ := hW
  have hA : DataW.TrodAll enc Try.prog W 0 (fun _ => true) true Try.f9.params.toList args.toList ds p := hA0
  rw [Try.params9] at hA hval
  obtain ⟨v0, vs0, d0, ds0, p0, q0, hargs, rfl, rfl, h0, r0⟩ := trodAll_cons hA
  obtain ⟨v1, vs1, d1, ds1, p1, q1, rfl, rfl, rfl, h1, r1⟩ := trodAll_cons r0
  obtain ⟨v2, vs2, d2, ds2, p2, q2, rfl, rfl, rfl, h2, r2⟩ := trodAll_cons r1
  obtain ⟨rfl, rfl, rfl⟩ := trodAll_nil r2
  obtain rfl : args = #[v0, v1, v2] := by cases args; simp_all
  obtain ⟨rfl, rfl⟩ := trodVars_none hV
  obtain ⟨a0, rfl, rfl, rfl, w0⟩ := open_string Try.underlying9 (hval 0 9 v0 rfl rfl) h0
  obtain ⟨a1, rfl, rfl, rfl, w1⟩ := open_int Try.underlying3 (hval 1 3 v1 rfl rfl) h1
  obtain ⟨a2, rfl, rfl, rfl, w2⟩ := open_int Try.underlying3 (hval 2 3 v2 rfl rfl) h2
  clear hA0 hval0
  simp only [List.append_nil] at hW'
  refine (walk a0 a1 a2 w0 w1 w2 W).mono fun e W' ⟨he, hg⟩ => ?_
  subst he
  exact ⟨_, rfl, post_of_below (pa := []) (pv := []) hW' (fun _ _ _ => (trodAll_cons_mk (shut_bool Try.underlying4 _) trodAll_mk0)) (fun sp _ => (trodAll_cons_mk (shut_string Try.underlying9 w0) (trodAll_cons_mk (shut_int Try.underlying3 w1) (trodAll_cons_mk (shut_int Try.underlying3 w2) trodAll_mk0)))) (fun _ _ => rfl) rfl
    hg (ok_one (by kernel_rfl) rfl (okWide_bool_mk Try.underlying4 _))⟩

theorem over : Rows.fnLineTrimRow.holds Try.pinned (OpenSpec.ofChange Rows.fnLineTrimSpec) :=
  OpenClaim.holds_of_wide 9 Try.f9 rfl rfl rfl rfl rfl rfl rfl ⟨rfl, rfl, rfl, rfl, rfl⟩ rfl rfl rfl rfl rfl (by kernel_rfl) Try.func9 (by kernel_rfl)
    (of_decide_eq_true (by kernel_rfl)) (by unfold Func.isWrapper; first | (rw [if_pos (by decide +kernel)]; kernel_rfl) | (rw [if_neg (by decide +kernel)]; exact ⟨rfl, rfl⟩))
    (fun os started H enc _ => lifted os started H enc)

/-- The statement. -/
theorem proved : Rows.FnLineTrimSaid :=
  over
#print axioms proved
end Go.Proofs.Ytgcncmaoinllfaa.fnLineTrim
