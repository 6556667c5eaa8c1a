/- Proves Rows.FnAutoURISaid: for every text and every place FnAutoURI returns true and the arguments read as before; no condition. The frame is the shell that the kit's proof-skeleton.mjs prints. The frame is the shell that the kit's proof-skeleton.mjs prints. -/
import Derived.Test.YtbgikebimaijlaaRows
import Derived.WalkKit
import Derived.ProofKit
import Derived.OpenShut
import Derived.ShutString
import Derived.Test.YtbgikebimaijlaaBase
import Derived.Test.YtbgikebimaijlaaAuto6
import Derived.Test.YtbgikebimaijlaaAuto5
namespace Go.Proofs.Ytbgikebimaijlaa.fnAutoURI
open Go.ChangeShapes Go.WideShapes Go.ChangeAt Go.RowKit
open Go.ChangeMaps (open_string shut_string)
set_option linter.unusedVariables false

theorem own : ownKnob Try.prog.godebug = none := by kernel_rfl

theorem mail_l (t : ByteArray) : (t.toList == (mailS ++ t).toList) = false := by
  rw [beq_eq_false_iff_ne]
  intro e
  rw [Lib.toList_data, Lib.toList_data] at e
  have e := congrArg List.length e
  have l1 : t.data.toList.length = t.size := rfl
  have l2 : (mailS ++ t).data.toList.length = (mailS ++ t).size := rfl
  rw [l1, l2, ByteArray.size_append] at e
  have h : mailS.size = 7 := rfl
  omega
set_option maxRecDepth 100000 in
set_option maxHeartbeats 4000000 in
theorem walk (a0 : ByteArray) (a1 : Int) (w0 : a0.size ≤ maxLen) (w1 : (Lit.int .i64 a1).wf = true) (w : World) :
    Calls Try.prog 6 #[.string a0, .int .i64 a1] w fun e w' => e = .returned (.bool true) ∧ Below w.heap.size w w' := by
  have W0 := hide w0
  have hb := get_bt a0
  unfold maxLen at w0
  clear w1
  by_cases h1 : 2147483647 < (a0.size : Int)
  · clear hb
    go_enter Try.func6, Try.ntmps6
    go_wp2
    go_ret
    exact ⟨rfl, Below.refl _ _⟩
  by_cases g0 : insideB a0 a1 200 = true
  case neg =>
    have g0 : insideB a0 a1 200 = false := by simpa using g0
    clear hb
    go_enter Try.func6, Try.ntmps6
    go_wp2_with (go_at_call 7; refine (inside_any _ _ _ _ W0.out).mono ?_; rintro e w' ⟨rfl, rfl⟩)
    go_ret
    exact ⟨rfl, Below.refl _ _⟩
  obtain ⟨p1, p2, p3, hL⟩ := inside_parts g0
  obtain ⟨i, rfl⟩ := Int.eq_ofNat_of_zero_le p1
  have hi : i ≤ a0.size := by omega
  have hs : a0.size ≤ 1000 := by omega
  have hL : LinedT a0 := hL
  by_cases hz : i = a0.size
  · have cz : ((i : Int) == (a0.size : Int)) = true := by simp [hz]
    clear hb hz hL
    go_enter Try.func6, Try.ntmps6
    go_wp2_with (go_at_call 7; refine (inside_any _ _ _ _ W0.out).mono ?_; rintro e w' ⟨rfl, rfl⟩)
    go_ret
    exact ⟨rfl, Below.refl _ _⟩
  have cz : ((i : Int) == (a0.size : Int)) = false := by simp; omega
  have hiz : i < a0.size := by omega
  by_cases hq : bt a0 i = 60
  case neg =>
    have cq : (bt a0 i != 60) = true := by simpa using hq
    have cq' : (bt a0 i == 60) = false := by simpa using hq
    clear hL hz hq
    go_enter Try.func6, Try.ntmps6
    go_wp2_with (go_at_call 7; refine (inside_any _ _ _ _ W0.out).mono ?_; rintro e w' ⟨rfl, rfl⟩)
    go_ret
    exact ⟨rfl, Below.refl _ _⟩
  have cq : (bt a0 i != 60) = false := by simp [hq]
  have hz2 : (a0.extract i a0.size).size = a0.size - i := by rw [ByteArray.size_extract]; omega
  have hlaw := auE_law a0 i hL hiz hq
  have R := fun wx => readAuto_any (a0.extract i a0.size) wx (by omega) (by omega) (by rw [bt_extract _ _ _ _ (by omega) (Nat.le_refl _), Nat.add_zero]; exact hq)
  have hbz := Below.refl w.heap.size w
  cases hE : auE a0 i with
  | none =>
    have C := fun wx => autoURI_no a0 i wx hs hi hE
    have D : ∀ wx : World, Calls Try.prog 19 #[.string (a0.extract i a0.size)] wx fun e w' => (e = .returned (.tuple #[.string ⟨#[]⟩, .string ⟨#[]⟩, .int .i64 0]) ∨ ∃ t n, e = .returned (.tuple #[.string t, .string (mailS ++ t), .int .i64 n])) ∧ wx = w' := fun wx => (R wx).mono fun e w' ⟨⟨v, hv, ha⟩, hw⟩ => by
      refine ⟨?_, hw⟩
      rcases ha with ⟨b1, b2, b3, b4, _⟩ | ⟨_, hv2 | ⟨t, n, hv2⟩⟩
      · rw [hE, if_pos ⟨b1, b2, b3, b4⟩] at hlaw; cases hlaw
      · exact .inl (by rw [hv, hv2])
      · exact .inr ⟨t, n, by rw [hv, hv2]⟩
    have CH := hide C
    have DH := hide D
    have m1 : ∀ t : ByteArray, (t.toList == (mailS ++ t).toList) = false := mail_l
    have m2 : ∀ t : ByteArray, (t.toList != (mailS ++ t).toList) = true := fun t => by rw [bne, mail_l t]; rfl
    clear C D R hlaw hE hL hz hq
    go_enter Try.func6, Try.ntmps6
    go_wp2_with (first | (go_at_call 7; refine (inside_any _ _ _ _ W0.out).mono ?_; rintro e w' ⟨rfl, rfl⟩) | (go_at_call 18; refine (CH.out _).mono ?_; rintro e w1 ⟨rfl, hb1⟩; replace hbz := hbz.trans (hb1.mono hbz.size)) | (go_at_call 19; refine (DH.out _).mono ?_; rintro e w' ⟨rfl | ⟨t, n, rfl⟩, rfl⟩))
    all_goals
      go_ret
      exact ⟨rfl, hbz.alloc hbz.size _⟩
  | some x =>
    have C := fun wx => autoURI_yes a0 i x wx hs hi hE
    rw [hE] at hlaw
    have hx : scan rdB (a0.extract i a0.size) 1 < (a0.extract i a0.size).size ∧ x = i + scan rdB (a0.extract i a0.size) 1 ∧ (1 < (a0.extract i a0.size).size ∧ scan rdB (a0.extract i a0.size) 1 < (a0.extract i a0.size).size ∧ bt (a0.extract i a0.size) (scan rdB (a0.extract i a0.size) 1) = 62 ∧ schB ((a0.extract i a0.size).extract 1 (scan rdB (a0.extract i a0.size) 1)) = true) := by
      split at hlaw
      · rename_i hh; injection hlaw with hlaw; exact ⟨hh.2.1, hlaw, hh⟩
      · cases hlaw
    obtain ⟨x1, x2, x3⟩ := hx
    have x0 := (scan_is rdB (a0.extract i a0.size) (i := 1) (by omega)).1
    have D : ∀ wx : World, Calls Try.prog 19 #[.string (a0.extract i a0.size)] wx fun e w' => e = .returned (.tuple #[.string (a0.extract (i + 1) x), .string (a0.extract (i + 1) x), .int .i64 ((x - i : Nat) + 1 : Int)]) ∧ wx = w' := fun wx => (R wx).mono fun e w' ⟨⟨v, hv, ha⟩, hw⟩ => by
      refine ⟨?_, hw⟩
      have hex : (a0.extract i a0.size).extract 1 (scan rdB (a0.extract i a0.size) 1) = a0.extract (i + 1) x := by
        refine ext_bt ?_ ?_
        · simp only [ByteArray.size_extract] at *; omega
        · intro k hk
          have hk' : k < scan rdB (a0.extract i a0.size) 1 - 1 := by rw [ByteArray.size_extract] at hk; omega
          rw [bt_extract _ _ _ _ (by omega) (by omega), bt_extract _ _ _ _ (by omega) (by omega), bt_extract _ _ _ _ (by omega) (by omega)]
          congr 1; omega
      rcases ha with ⟨_, _, _, _, hv2⟩ | ⟨hne, _⟩
      · rw [hv, hv2, hex, show scan rdB (a0.extract i a0.size) 1 = x - i by omega]
      · exact absurd x3 hne
    have CH := hide C
    have DH := hide D
    obtain ⟨n, hn⟩ : ∃ n, x = i + n := ⟨x - i, by omega⟩
    have hxi : (x : Int) + 1 = (i : Int) + (((x - i : Nat) : Int) + 1) := by omega
    have n0 : ((((x - i : Nat) : Int) + 1) == 0) = false := by rw [beq_eq_false_iff_ne]; omega
    have b0 : x ≤ 1000 := by omega
    have cee : (((x : Int) + 1) == (i : Int) + (((x - i : Nat) : Int) + 1)) = true := by rw [beq_iff_eq]; exact hxi
    clear C D R hlaw hE hL hz hq x1 x2 x3 hxi hn
    go_enter Try.func6, Try.ntmps6
    go_wp2_with (first | (go_at_call 7; refine (inside_any _ _ _ _ W0.out).mono ?_; rintro e w' ⟨rfl, rfl⟩) | (go_at_call 18; refine (CH.out _).mono ?_; rintro e w1 ⟨rfl, hb1⟩; replace hbz := hbz.trans (hb1.mono hbz.size)) | (go_at_call 19; refine (DH.out _).mono ?_; rintro e w' ⟨rfl, rfl⟩))
    go_ret
    exact ⟨rfl, hbz.alloc hbz.size _⟩

/-! The row's step, as the shell has it -/
set_option maxRecDepth 100000 in
theorem lifted (os : Os) (started : os.Started) (H : Type) (enc : TypeId × Value → H) :
    ReturnsInHanded {} Try.checked os 6 .any (Rows.fnAutoURISpec.pre6 enc Try.prog Try.f6 Rows.fnAutoURIRow.domain false) (Rows.fnAutoURISpec.post enc Try.prog Try.f6 false true false false) := by
  refine returnsInHanded_of_change (C := Try.checked) own started (by kernel_rfl) Try.func6
    (ChangeSpec.witness6 (enc := enc) (C := Try.checked) false ⟨#[], #[.string ByteArray.empty, .int .i64 0], []⟩ 8 (by kernel_rfl) (by kernel_rfl) (by kernel_rfl) (by kernel_rfl)) ?_
  intro W base args ds gs before hval0 hW hcnd _
  have hval : ∀ (j : Nat) t v, Try.f6.params[j]? = some t → args[j]? = some v → Value.okWide Try.prog W .any base t v := hval0
  have hW' := hW
  obtain ⟨p, q, hA0, hV, rfl, hfz, hnd⟩ := hW
  have hA : DataW.TrodAll enc Try.prog W 0 (fun _ => true) true Try.f6.params.toList args.toList ds p := hA0
  rw [Try.params6] at hA hval
  obtain ⟨v0, vs0, d0, ds0, p0, q0, hargs, rfl, rfl, h0, r0⟩ := trodAll_cons hA
  obtain ⟨v1, vs1, d1, ds1, p1, q1, rfl, rfl, rfl, h1, r1⟩ := trodAll_cons r0
  obtain ⟨rfl, rfl, rfl⟩ := trodAll_nil r1
  obtain rfl : args = #[v0, v1] := by cases args; simp_all
  obtain ⟨rfl, rfl⟩ := trodVars_none hV
  obtain ⟨a0, rfl, rfl, rfl, w0⟩ := open_string Try.underlying9 (hval 0 9 v0 rfl rfl) h0
  obtain ⟨a1, rfl, rfl, rfl, w1⟩ := open_int Try.underlying3 (hval 1 3 v1 rfl rfl) h1
  clear hA0 hval0
  simp only [List.append_nil] at hW'
  refine (walk a0 a1 w0 w1 W).mono fun e W' ⟨he, hg⟩ => ?_
  subst he
  exact ⟨_, rfl, post_of_below (pa := []) (pv := []) hW' (fun _ _ _ => (trodAll_cons_mk (shut_bool Try.underlying4 _) trodAll_mk0)) (fun sp _ => (trodAll_cons_mk (shut_string Try.underlying9 w0) (trodAll_cons_mk (shut_int Try.underlying3 w1) trodAll_mk0))) (fun _ _ => rfl) rfl
    hg (ok_one (by kernel_rfl) rfl (okWide_bool_mk Try.underlying4 _))⟩

theorem over : Rows.fnAutoURIRow.holds Try.pinned (OpenSpec.ofChange Rows.fnAutoURISpec) :=
  OpenClaim.holds_of_wide 6 Try.f6 rfl rfl rfl rfl rfl rfl rfl ⟨rfl, rfl, rfl, rfl, rfl⟩ rfl rfl rfl rfl rfl (by kernel_rfl) Try.func6 (by kernel_rfl)
    (of_decide_eq_true (by kernel_rfl)) (by unfold Func.isWrapper; first | (rw [if_pos (by decide +kernel)]; kernel_rfl) | (rw [if_neg (by decide +kernel)]; exact ⟨rfl, rfl⟩))
    (fun os started H enc _ => lifted os started H enc)

/-- The statement. -/
theorem proved : Rows.FnAutoURISaid :=
  over
#print axioms proved
end Go.Proofs.Ytbgikebimaijlaa.fnAutoURI
