/- Proves Rows.FnEscapeHTMLCardSaid: for every two texts FnEscapeHTML returns true and the arguments read as before, bytes.ErrTooLarge as the program's text lays it (the card's tie); no other condition. -/
import Derived.Test.YtecccieeikmfeaaDoorCards
import Derived.Test.YtecccieeikmfeaaDoorTie
import Derived.Test.YtecccieeikmfeaaDoorEscU
import Derived.ProofKit
import Derived.OpenShut
import Derived.Deep.DeepHandedRow
namespace Go.Proofs.YtecccieeikmfeaaDoor
open Go.RowKit
theorem escS_any (s : ByteArray) (w : World) (hs : s.size ≤ 10000) : Calls Tryd.prog 5 #[.string s] w fun e w' => e = .returned (.string (escF s s.size)) ∧ w = w' := by
  have hb := get_bt s
  go_enter Tryd.func5, Tryd.ntmps5
  go_wp2
  go_loop [3, 4] (fun o kv => ∃ (k : Nat) (t : ByteArray), k ≤ s.size ∧ o = .string t ∧ kv = .int .i64 k ∧ t.size ≤ 6 * k ∧ Hid (t = escF s k)) (fun _ kv => s.size - (intOf kv).toNat)
  case atStart => exact ⟨0, ByteArray.empty, by omega, rfl, rfl, by simp, rfl⟩
  case round =>
    obtain ⟨k, t, hk, rfl, rfl, hz, hT⟩ := hrel
    by_cases hlt : k < s.size
    · have st : ∀ x, oneS s k = x → Hid (t ++ x = escF s (k + 1)) := fun x h => by unfold Hid; rw [hT.out, escF, h]
      by_cases h38 : bt s k = 38
      · have hn := st _ (one_yes (m := 1) (by omega) h38)
        have c1 : (bt s k == 38) = true := by simp [h38]
        clear h38 st
        go_wp2
        go_round
        case rel => exact ⟨k + 1, _, by omega, rfl, by go_num, by (have h := esc_le s (k + 1); rw [← hn.out] at h; exact h), hn⟩
        case measure => simp [intOf]; omega
      · have c1 : (bt s k == 38) = false := by simp [h38]
        by_cases h60 : bt s k = 60
        · have hn := st _ (one_yes (m := 2) (by omega) h60)
          have c2 : (bt s k == 60) = true := by simp [h60]
          clear h38 h60 st
          go_wp2
          go_round
          case rel => exact ⟨k + 1, _, by omega, rfl, by go_num, by (have h := esc_le s (k + 1); rw [← hn.out] at h; exact h), hn⟩
          case measure => simp [intOf]; omega
        · have c2 : (bt s k == 60) = false := by simp [h60]
          by_cases h62 : bt s k = 62
          · have hn := st _ (one_yes (m := 3) (by omega) h62)
            have c3 : (bt s k == 62) = true := by simp [h62]
            clear h38 h60 h62 st
            go_wp2
            go_round
            case rel => exact ⟨k + 1, _, by omega, rfl, by go_num, by (have h := esc_le s (k + 1); rw [← hn.out] at h; exact h), hn⟩
            case measure => simp [intOf]; omega
          · have c3 : (bt s k == 62) = false := by simp [h62]
            by_cases h34 : bt s k = 34
            · have hn := st _ (one_yes (m := 0) (by omega) h34)
              have c4 : (bt s k == 34) = true := by simp [h34]
              clear h38 h60 h62 h34 st
              go_wp2
              go_round
              case rel => exact ⟨k + 1, _, by omega, rfl, by go_num, by (have h := esc_le s (k + 1); rw [← hn.out] at h; exact h), hn⟩
              case measure => simp [intOf]; omega
            · have c4 : (bt s k == 34) = false := by simp [h34]
              have hn := st _ (one_no (fun m hm => by
                match m, hm with
                | 0, _ => exact h34
                | 1, _ => exact h38
                | 2, _ => exact h60
                | 3, _ => exact h62))
              clear h38 h60 h62 h34 st
              go_wp2
              go_round
              case rel => exact ⟨k + 1, _, by omega, rfl, by go_num, by (have h := esc_le s (k + 1); rw [← hn.out] at h; exact h), hn⟩
              case measure => simp [intOf]; omega
    · obtain rfl : k = s.size := by omega
      go_wp2
      go_ret
      exact ⟨ret_str hT.out, rfl⟩
theorem one_left (s t : ByteArray) {k : Nat} (h : k < s.size) : oneS (s ++ t) k = oneS s k := by
  unfold oneS
  rw [bt_left s t h]
  have : (s ++ t).extract k (k + 1) = s.extract k (k + 1) := by
    refine ext_bt (by rw [ByteArray.size_extract, ByteArray.size_extract, ByteArray.size_append]; omega) fun q hq => ?_
    rw [ByteArray.size_extract, ByteArray.size_append] at hq
    rw [bt_extract _ _ _ _ (by omega) (by rw [ByteArray.size_append]; omega), bt_extract _ _ _ _ (by omega) (by omega), bt_left s t (by omega)]
  rw [this]
theorem one_right (s t : ByteArray) {k : Nat} (h : k < t.size) : oneS (s ++ t) (s.size + k) = oneS t k := by
  unfold oneS
  rw [bt_right s t k]
  have : (s ++ t).extract (s.size + k) (s.size + k + 1) = t.extract k (k + 1) := by
    refine ext_bt (by rw [ByteArray.size_extract, ByteArray.size_extract, ByteArray.size_append]; omega) fun q hq => ?_
    rw [ByteArray.size_extract, ByteArray.size_append] at hq
    rw [bt_extract _ _ _ _ (by omega) (by rw [ByteArray.size_append]; omega), bt_extract _ _ _ _ (by omega) (by omega), show s.size + k + q = s.size + (k + q) by omega, bt_right s t]
  rw [this]
theorem esc_left (s t : ByteArray) : ∀ k, k ≤ s.size → escF (s ++ t) k = escF s k
  | 0, _ => rfl
  | k + 1, h => by rw [escF, escF, esc_left s t k (by omega), one_left s t (by omega)]
theorem esc_right (s t : ByteArray) : ∀ k, k ≤ t.size → escF (s ++ t) (s.size + k) = escF s s.size ++ escF t k
  | 0, _ => by rw [Nat.add_zero, esc_left s t s.size (Nat.le_refl _), escF, ByteArray.append_empty]
  | k + 1, h => by
    rw [show s.size + (k + 1) = s.size + k + 1 by omega, escF, esc_right s t k (by omega), one_right s t (by omega), escF, ByteArray.append_assoc]
theorem esc_app (s t : ByteArray) : escF (s ++ t) (s ++ t).size = escF s s.size ++ escF t t.size := by
  rw [ByteArray.size_append, esc_right s t t.size (Nat.le_refl _)]
set_option maxHeartbeats 1000000 in
set_option maxRecDepth 100000 in
theorem esc_walk (a0 a1 : ByteArray) (w0 : a0.size ≤ maxLen) (w1 : a1.size ≤ maxLen) (w : World) :
    Calls Tryd.prog 3 #[.string a0, .string a1] w fun e w' => e = .returned (.bool true) ∧ Below w.heap.size w w' := by
  unfold maxLen at w0 w1
  by_cases h1 : 2147483647 < (a0.size : Int)
  · go_enter Tryd.func3, Tryd.ntmps3
    go_wp2
    go_ret
    exact ⟨rfl, Below.refl _ _⟩
  by_cases h2 : 2147483647 < (a1.size : Int)
  · go_enter Tryd.func3, Tryd.ntmps3
    go_wp2
    go_ret
    exact ⟨rfl, Below.refl _ _⟩
  by_cases h3 : 4000 < (a0.size : Int) + (a1.size : Int)
  · go_enter Tryd.func3, Tryd.ntmps3
    go_wp2
    go_ret
    exact ⟨rfl, Below.refl _ _⟩
  have C0 := hide (fun wx => implEsc_any a0 wx (by omega))
  have C1 := hide (fun wx => implEsc_any a1 wx (by omega))
  have C2 := hide (fun wx => implEsc_any (a0 ++ a1) wx (by rw [ByteArray.size_append]; omega))
  have S0 := hide (fun wx => escS_any a0 wx (by omega))
  have HE := hide (esc_app a0 a1)
  have z0 := esc_le a0 a0.size
  have z1 := esc_le a1 a1.size
  have hbz := Below.refl w.heap.size w
  go_enter Tryd.func3, Tryd.ntmps3
  go_wp2_with (first | (go_at_call 4; with_reducible refine (C0.out _).mono ?_; rintro e w1 ⟨rfl, hb1⟩; replace hbz := hbz.trans (hb1.mono hbz.size)) | (go_at_call 4; with_reducible refine (C1.out _).mono ?_; rintro e w1 ⟨rfl, hb1⟩; replace hbz := hbz.trans (hb1.mono hbz.size)) | (go_at_call 4; with_reducible refine (C2.out _).mono ?_; rintro e w1 ⟨rfl, hb1⟩; replace hbz := hbz.trans (hb1.mono hbz.size)) | (go_at_call 5; refine (S0.out _).mono ?_; rintro e w' ⟨rfl, rfl⟩))
  go_ret
  exact ⟨ret_bool (by have h := HE.out; rw [ByteArray.size_append] at h; rw [h]; simp), hbz⟩
end Go.Proofs.YtecccieeikmfeaaDoor
namespace Go.Proofs.YtecccieeikmfeaaDoor.fnEscapeHTML
open Go.ChangeShapes Go.WideShapes Go.ChangeAt Go.RowKit
open Go.ChangeMaps (open_string shut_string)
set_option linter.unusedVariables false
theorem contract (H : Type) (enc : TypeId × Value → H) (W : World) (base : Nat) (args : Array Value) (ds gs : List (DataW H)) (before : List MemPlace)
    (hval : ∀ (j : Nat) t v, Tryd.f3.params[j]? = some t → args[j]? = some v → Value.okWide Tryd.prog W .any base t v)
    (hW : DataW.Whole enc Tryd.prog Tryd.f3.params.toList Rows.fnEscapeHTMLSpec.vars false W args.toList ds gs before) (hL : laidMetH Tryd.prog Rows.fnEscapeHTMLRow.laid W) :
    Calls Tryd.prog 3 args W fun e W' => ∃ v, e = .returned v ∧ Rows.fnEscapeHTMLSpec.post enc Tryd.prog Tryd.f3 false true false false W args v W' := by
  have hW' := hW
  obtain ⟨p, q, hA0, hV, rfl, hfz, hnd⟩ := hW
  have hA : DataW.TrodAll enc Tryd.prog W 0 (fun _ => true) true Tryd.f3.params.toList args.toList ds p := hA0
  rw [Tryd.params3] at hA hval
  obtain ⟨v0, vs0, d0, ds0, p0, q0, hargs, rfl, rfl, h0, r0⟩ := trodAll_cons hA
  obtain ⟨v1, vs1, d1, ds1, p1, q1, rfl, rfl, rfl, h1, r1⟩ := trodAll_cons r0
  obtain ⟨rfl, rfl, rfl⟩ := trodAll_nil r1
  obtain rfl : args = #[v0, v1] := by cases args; simp_all
  obtain ⟨rfl, rfl⟩ := trodVars_none hV
  obtain ⟨a0, rfl, rfl, rfl, w0⟩ := open_string Tryd.underlying9 (hval 0 9 v0 rfl rfl) h0
  obtain ⟨a1, rfl, rfl, rfl, w1⟩ := open_string Tryd.underlying9 (hval 1 9 v1 rfl rfl) h1
  clear hA0
  simp only [List.append_nil] at hW'
  refine (esc_walk a0 a1 w0 w1 W).mono fun e W' ⟨he, hg⟩ => ?_
  subst he
  exact ⟨_, rfl, post_of_below (pa := []) (pv := []) hW' (fun _ _ _ => (trodAll_cons_mk (shut_bool Tryd.underlying4 _) trodAll_mk0)) (fun sp _ => (trodAll_cons_mk (shut_string Tryd.underlying9 w0) (trodAll_cons_mk (shut_string Tryd.underlying9 w1) trodAll_mk0))) (fun _ _ => rfl) rfl
    hg (ok_one (by kernel_rfl) rfl (okWide_bool_mk Tryd.underlying4 _))⟩
/-- So many blocks has the settled world. -/
noncomputable def low : Nat := (World.holding Tryd.prog default ⟨#[], #[], []⟩).heap.size
abbrev tooS : ByteArray := ⟨#[98, 121, 116, 101, 115, 46, 66, 117, 102, 102, 101, 114, 58, 32, 116, 111, 111, 32, 108, 97, 114, 103, 101]⟩
/-- A world for the witness: one block more, an errorString, to which bytes.ErrTooLarge points. -/
noncomputable def laidWorld (os : Os) : World :=
  let w0 := World.holding Tryd.prog os ⟨#[.cells #[.string tooS] 61], #[], []⟩
  { w0 with heap := w0.heap.modify 0 fun
      | .cells _ t frozen => .cells #[.iface 45 (.pointer (some ⟨low, 0, none⟩))] t frozen
      | o => o }
theorem own : ownKnob Tryd.prog.godebug = none := by kernel_rfl
theorem laid_met (os : Os) : laidMet Tryd.prog Rows.fnEscapeHTMLRow.laid ((laidWorld os).forCall (fun _ _ => 0) ⟨#[], #[.string ByteArray.empty, .string ByteArray.empty], []⟩).memory :=
  laidMet_of_run' 8 (by kernel_rfl) (by kernel_rfl)
theorem reads (os : Os) {H : Type} (enc : TypeId × Value → H) : ∃ places, DataW.whole enc Tryd.prog ((laidWorld os).forCall (fun _ _ => 0) ⟨#[], #[.string ByteArray.empty, .string ByteArray.empty], []⟩).memory Tryd.f3.params.toList Rows.fnEscapeHTMLSpec.vars false #[Value.string ByteArray.empty, .string ByteArray.empty].toList 8 = some ([.lit (.string []), .lit (.string [])], [], places) :=
  ⟨[], by kernel_rfl⟩
set_option maxRecDepth 100000 in
theorem lifted (os : Os) (started : os.Started) (H : Type) (enc : TypeId × Value → H) (F : Stop.Interp) :
    ReturnsInHanded {} Tryd.checked os 3 .any ((OpenSpec.ofChange Rows.fnEscapeHTMLSpec).preRow enc Tryd.prog Tryd.f3 Rows.fnEscapeHTMLRow.domain false Rows.fnEscapeHTMLRow.laid) (((OpenSpec.ofChange Rows.fnEscapeHTMLSpec).at F).post enc Tryd.prog Tryd.f3 false true false false) := by
  obtain ⟨places, hx⟩ := reads os enc
  refine returnsInHanded_of_row (C := Tryd.checked) (s := OpenSpec.ofChange Rows.fnEscapeHTMLSpec) own started (by kernel_rfl) Tryd.func3
    (witness_row_at (enc := enc) (C := Tryd.checked) false (laidWorld os) #[.string ByteArray.empty, .string ByteArray.empty] rfl (by kernel_rfl) (by kernel_rfl) (by kernel_rfl)
      (OpenSpec.preRow_of_cond 8 hx (by kernel_rfl) (fun k hk => by cases hk) (by kernel_rfl) (laid_met os))) ?_
  intro W base args ds gs before hval hW _ _ _ hL _ _
  exact contract H enc W base args ds gs before hval hW hL
theorem said : Rows.FnEscapeHTMLSaid :=
  OpenClaim.holds_of_cond 3 Tryd.f3 rfl rfl rfl rfl rfl rfl rfl ⟨rfl, rfl, rfl, rfl, rfl⟩ rfl rfl rfl rfl rfl (by kernel_rfl) Tryd.func3 (by kernel_rfl)
    (of_decide_eq_true (by kernel_rfl)) (by unfold Func.isWrapper; first | (rw [if_pos (by decide +kernel)]; kernel_rfl) | (rw [if_neg (by decide +kernel)]; exact ⟨rfl, rfl⟩))
    (fun os started H enc _ F => by rw [OpenClaim.pre_eq_preRow]; exact lifted os started H enc F)
theorem plain (f : FuncId) (fn : Func) (hf : Tryd.pinned.checked.prog.funcNamed "pub-paratext/laws.FnEscapeHTML" = some f) (hfn : Tryd.pinned.checked.prog.funcs[f]? = some fn) :
    false = Tryd.pinned.checked.prog.looks [] ∧ ∀ (j : Nat) t, fn.params[j]? = some t → Tryd.pinned.checked.prog.wantsStandIn t = false := by
  obtain rfl : f = 3 := Option.some.inj ((show Tryd.prog.funcNamed "pub-paratext/laws.FnEscapeHTML" = some 3 by kernel_rfl).symm.trans hf) |>.symm
  obtain rfl : fn = Tryd.f3 := (Option.some.inj (Tryd.func3.symm.trans hfn)).symm
  refine ⟨by kernel_rfl, fun j t ht => ?_⟩
  rw [Tryd.params3] at ht
  obtain rfl : t = 9 := by simpa using Array.mem_of_getElem? ht
  exact (show Tryd.prog.wantsStandIn 9 = false by kernel_rfl)
/-- The card. -/
theorem card : Rows.FnEscapeHTMLCardSaid :=
  Claim7.holds_tied_plain_at .later [] _ _ _ _ said (fun _ h => by cases h) (by kernel_rfl) (fun _ h => by cases h) fnEscapeHTML_row_tie rfl ⟨rfl, rfl⟩ (by kernel_rfl) rfl plain (by kernel_rfl)
#print axioms card
end Go.Proofs.YtecccieeikmfeaaDoor.fnEscapeHTML
