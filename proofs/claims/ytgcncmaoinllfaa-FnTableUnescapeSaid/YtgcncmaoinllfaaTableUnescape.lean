/- Proves Rows.FnTableUnescapeSaid: for every text FnTableUnescape returns true and the argument reads as before; no condition. The frame is the shell that the kit's proof-skeleton.mjs prints. -/
import Derived.Test.YtgcncmaoinllfaaRows
import Derived.WalkKit
import Derived.ProofKit
import Derived.OpenShut
import Derived.ShutString
import Derived.Test.YtgcncmaoinllfaaBase
import Derived.Test.YtgcncmaoinllfaaUnescT
namespace Go.Proofs.Ytgcncmaoinllfaa.fnTableUnescape
open Go.ChangeShapes Go.WideShapes Go.ChangeAt Go.RowKit
open Go.ChangeMaps (open_string shut_string)
set_option linter.unusedVariables false

theorem own : ownKnob Try.prog.godebug = none := by kernel_rfl

theorem implUnescape_any (s : ByteArray) (w : World) (hs : s.size ≤ 2147483647) : Calls Try.prog 11 #[.string s] w fun e w' => e = .returned (.string (bytesOf (unT s s.size))) ∧ Below w.heap.size w w' := by
  go_enter Try.func11, Try.ntmps11
  go_wp2_with (first | (go_at_call 39; refine (tableUnescape_any s _ hs).mono ?_; rintro e w1 ⟨rfl, hb1⟩) | go_in)
  go_ret
  exact ⟨rfl, hb1⟩
theorem nat_succ_eq (k n : Nat) : (((k : Int) + 1) == (n : Int)) = decide (k + 1 = n) := by
  rw [Bool.eq_iff_iff]; simp; omega
set_option maxHeartbeats 1000000 in
theorem walk (a0 : ByteArray) (w0 : a0.size ≤ maxLen) (w : World) :
    Calls Try.prog 3 #[.string a0] w fun e w' => e = .returned (.bool true) ∧ Below w.heap.size w w' := by
  have W0 := hide w0
  unfold maxLen at w0
  obtain ⟨i0, hi0, hz0, hz1, hz2⟩ := info_parts info_u8t
  by_cases h1 : 2147483647 < (a0.size : Int)
  · go_enter Try.func3, Try.ntmps3
    go_wp2
    go_ret
    exact ⟨rfl, Below.refl _ _⟩
  have hs2 : a0.size ≤ 2147483647 := by omega
  by_cases hp : printB a0 2000 = true
  · have hb := get_bt a0
    go_enter Try.func3, Try.ntmps3
    go_wp2_with (go_at_call 10; refine (printable_any _ _ _ W0.out).mono ?_; rintro e w' ⟨rfl, rfl⟩)
    clear hp h1
    go_loopw [3, 4] (fun v i wr => ∃ k : Nat, k ≤ a0.size ∧ i = .int .i64 k ∧ wr.ownsRow w.heap.size 5 1 v (unT a0 k).length ((unT a0 k).map (Value.int .u8)) ∧ Below w.heap.size w wr) (fun _ i _ => a0.size - (intOf i).toNat)
    case atStart => exact ⟨0, by omega, rfl, World.ownsRow_lit _ _ _ (Nat.le_refl _) (by simp) rfl, (Below.refl _ _).alloc (Nat.le_refl _) _⟩
    case round =>
      obtain ⟨k, hk, rfl, hown, hbe⟩ := hrel
      have hlen := unT_len a0 k
      by_cases hlt : k < a0.size
      · by_cases h1 : bt a0 k = 92
        · have hc : (bt a0 k != 92) = false := by simp [h1]
          by_cases h2 : k + 1 < a0.size
          · have hc2 : (((k : Int) + 1) == (a0.size : Int)) = false := by rw [nat_succ_eq]; simp; omega
            by_cases h3 : bt a0 (k + 1) = 124
            · have hno := hide (unT_yes (s := a0) (k := k) (by simp [goneB, h1, h2, h3]))
              have hc3 : (bt a0 (k + 1) != 124) = false := by simp [h3]
              clear h1 h3
              go_wp2
              go_roundw
              case rel => exact ⟨k + 1, by omega, by go_num, by rw [hno.out]; exact hown, hbe⟩
              case measure => simp [intOf]; omega
            · have hno := hide (unT_no (s := a0) (k := k) (by simp [goneB, h3]))
              rw [h1] at hno
              have hc3 : (bt a0 (k + 1) != 124) = true := by simp [h3]
              clear h3
              go_wp2_with (at_builtin; refine wpList_append_own _ rfl (.tmp 36) (.tmp 40) 23 rfl w.heap.size 5 i0 (.int .u8 0) 1 1 Try.underlying23 hi0 hz0 hz1 hz2 rfl (by decide) _ (unT a0 k).length _ rfl (hown.alloc _) ⟨wr.heap.size, 0, none⟩ 1 1 [.int .u8 92] rfl rfl (cellOne _ _ _) (by simp [Value.oneCell']) (by unfold maxLen; omega) (by omega) (by have := hbe.size; simp; omega) ?_; intro v1 w1 hown1 hg1 _)
              have hb1 : Below w.heap.size w w1 := (hbe.alloc hbe.size _).grown hg1 (by have := hbe.size; simp; omega) (fun k hk => (hown.lt k hk).1)
              go_roundw
              case rel => exact ⟨k + 1, by omega, by go_num, by rw [hno.out]; simpa using hown1, hb1⟩
              case measure => simp [intOf]; omega
          · have hc2 : (((k : Int) + 1) == (a0.size : Int)) = true := by rw [nat_succ_eq]; simp; omega
            have hno := hide (unT_no (s := a0) (k := k) (by simp [goneB, h2]))
            rw [h1] at hno
            skip
            go_wp2_with (at_builtin; refine wpList_append_own _ rfl (.tmp 36) (.tmp 40) 23 rfl w.heap.size 5 i0 (.int .u8 0) 1 1 Try.underlying23 hi0 hz0 hz1 hz2 rfl (by decide) _ (unT a0 k).length _ rfl (hown.alloc _) ⟨wr.heap.size, 0, none⟩ 1 1 [.int .u8 92] rfl rfl (cellOne _ _ _) (by simp [Value.oneCell']) (by unfold maxLen; omega) (by omega) (by have := hbe.size; simp; omega) ?_; intro v1 w1 hown1 hg1 _)
            have hb1 : Below w.heap.size w w1 := (hbe.alloc hbe.size _).grown hg1 (by have := hbe.size; simp; omega) (fun k hk => (hown.lt k hk).1)
            go_roundw
            case rel => exact ⟨k + 1, by omega, by go_num, by rw [hno.out]; simpa using hown1, hb1⟩
            case measure => simp [intOf]; omega
        · have hno := hide (unT_no (s := a0) (k := k) (by simp [goneB, h1]))
          have hc : (bt a0 k != 92) = true := by simp [h1]
          clear h1
          go_wp2_with (at_builtin; refine wpList_append_own _ rfl (.tmp 36) (.tmp 40) 23 rfl w.heap.size 5 i0 (.int .u8 0) 1 1 Try.underlying23 hi0 hz0 hz1 hz2 rfl (by decide) _ (unT a0 k).length _ rfl (hown.alloc _) ⟨wr.heap.size, 0, none⟩ 1 1 [.int .u8 (bt a0 k)] rfl rfl (cellOne _ _ _) (by simp [Value.oneCell']) (by unfold maxLen; omega) (by omega) (by have := hbe.size; simp; omega) ?_; intro v1 w1 hown1 hg1 _)
          have hb1 : Below w.heap.size w w1 := (hbe.alloc hbe.size _).grown hg1 (by have := hbe.size; simp; omega) (fun k hk => (hown.lt k hk).1)
          go_roundw
          case rel => exact ⟨k + 1, by omega, by go_num, by rw [hno.out]; simpa using hown1, hb1⟩
          case measure => simp [intOf]; omega
      · obtain rfl : k = a0.size := by omega
        clear hlen hlt hk
        have hcv := fun W (h : World.ownsRow W w.heap.size 5 1 u3 (unT a0 a0.size).length ((unT a0 a0.size).map (Value.int .u8))) => run_conv_own (P := Try.prog) 23 9 5 Try.underlying23 Try.underlying5 Try.underlying9 h
        have hlt := hown.lt
        have HL := hide hlt
        clear hlt
        have hownd := hown.drew
        go_wp2
        go_region_with (go_at_call 11; refine (implUnescape_any a0 _ hs2).mono ?_; rintro e w1 ⟨rfl, hb1⟩; have hown1 := own_below hownd hb1 (fun g hg => (HL.out g hg).2))
        all_goals
          go_wp2
          go_ret
          exact ⟨ret_bool (by simp), hbe.drew.trans (hb1.mono (by have := hbe.size; simpa using this))⟩
  · have hp : printB a0 2000 = false := by simpa using hp
    go_enter Try.func3, Try.ntmps3
    go_wp2_with (go_at_call 10; refine (printable_any _ _ _ W0.out).mono ?_; rintro e w' ⟨rfl, rfl⟩)
    go_ret
    exact ⟨rfl, Below.refl _ _⟩

/-! The row's step, as the shell has it -/
set_option maxRecDepth 100000 in
theorem lifted (os : Os) (started : os.Started) (H : Type) (enc : TypeId × Value → H) :
    ReturnsInHanded {} Try.checked os 3 .any (Rows.fnTableUnescapeSpec.pre6 enc Try.prog Try.f3 Rows.fnTableUnescapeRow.domain false) (Rows.fnTableUnescapeSpec.post enc Try.prog Try.f3 false true false false) := by
  refine returnsInHanded_of_change (C := Try.checked) own started (by kernel_rfl) Try.func3
    (ChangeSpec.witness6 (enc := enc) (C := Try.checked) false ⟨#[], #[.string ByteArray.empty], []⟩ 8 (by kernel_rfl) (by kernel_rfl) (by kernel_rfl) (by kernel_rfl)) ?_
  intro W base args ds gs before hval0 hW hcnd _
  have hval : ∀ (j : Nat) t v, Try.f3.params[j]? = some t → args[j]? = some v → Value.okWide Try.prog W .any base t v := hval0
  have hW' := hW
  obtain ⟨p, q, hA0, hV, rfl, hfz, hnd⟩ := hW
  have hA : DataW.TrodAll enc Try.prog W 0 (fun _ => true) true Try.f3.params.toList args.toList ds p := hA0
  rw [Try.params3] at hA hval
  obtain ⟨v0, vs0, d0, ds0, p0, q0, hargs, rfl, rfl, h0, r0⟩ := trodAll_cons hA
  obtain ⟨rfl, rfl, rfl⟩ := trodAll_nil r0
  obtain rfl : args = #[v0] := by cases args; simp_all
  obtain ⟨rfl, rfl⟩ := trodVars_none hV
  obtain ⟨a0, rfl, rfl, rfl, w0⟩ := open_string Try.underlying9 (hval 0 9 v0 rfl rfl) h0
  clear hA0 hval0
  simp only [List.append_nil] at hW'
  refine (walk a0 w0 W).mono fun e W' ⟨he, hg⟩ => ?_
  subst he
  exact ⟨_, rfl, post_of_below (pa := []) (pv := []) hW' (fun _ _ _ => (trodAll_cons_mk (shut_bool Try.underlying4 _) trodAll_mk0)) (fun sp _ => (trodAll_cons_mk (shut_string Try.underlying9 w0) trodAll_mk0)) (fun _ _ => rfl) rfl
    hg (ok_one (by kernel_rfl) rfl (okWide_bool_mk Try.underlying4 _))⟩

theorem over : Rows.fnTableUnescapeRow.holds Try.pinned (OpenSpec.ofChange Rows.fnTableUnescapeSpec) :=
  OpenClaim.holds_of_wide 3 Try.f3 rfl rfl rfl rfl rfl rfl rfl ⟨rfl, rfl, rfl, rfl, rfl⟩ rfl rfl rfl rfl rfl (by kernel_rfl) Try.func3 (by kernel_rfl)
    (of_decide_eq_true (by kernel_rfl)) (by unfold Func.isWrapper; first | (rw [if_pos (by decide +kernel)]; kernel_rfl) | (rw [if_neg (by decide +kernel)]; exact ⟨rfl, rfl⟩))
    (fun os started H enc _ => lifted os started H enc)

/-- The statement. -/
theorem proved : Rows.FnTableUnescapeSaid :=
  over
#print axioms proved
end Go.Proofs.Ytgcncmaoinllfaa.fnTableUnescape
