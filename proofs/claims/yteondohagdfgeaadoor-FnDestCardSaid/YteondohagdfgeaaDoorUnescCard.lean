/- Proves Rows.FnUnescapeCardSaid: for every text FnUnescape returns true and the argument reads as before, the table of entities as the program's text lays it (the card's tie); no other condition. -/
import Derived.Test.YteondohagdfgeaaDoorLaid
import Derived.Test.YteondohagdfgeaaDoorUnescM
namespace Go.Proofs.YteondohagdfgeaaDoor
open Go.RowKit
theorem implUnescape_any (s : ByteArray) (w : World) (hs : s.size ≤ 1000) (hE : EntIs w) (hN : NoOther s) :
    Calls Tryd.prog 8 #[.string s] w fun e w' => e = .returned (.string (unR s 0)) ∧ Below w.heap.size w w' := by
  have R := hide (mdUnescape_any s w hs hE hN)
  clear hE hN
  go_enter Tryd.func8, Tryd.ntmps8
  go_wp2_with (first | (go_at_call 27; refine R.out.mono ?_; rintro e w1 ⟨rfl, hb1⟩) | go_in)
  go_ret
  exact ⟨rfl, hb1⟩
def numN (s : ByteArray) : Nat := untilN s ⟨#[]⟩ ⟨#[38, 35]⟩
theorem hit_nil (s : ByteArray) : hitB s ⟨#[]⟩ 0 = true := by
  rw [hit_in (by show 0 + 0 ≤ s.size; omega), show 0 + (⟨#[]⟩ : ByteArray).size = 0 from rfl]
  have : s.extract 0 0 = ⟨#[]⟩ := by apply ByteArray.ext; simp
  rw [this]; simp
theorem hit_num {s : ByteArray} {k : Nat} (hk : k + 1 < s.size) (h0 : bt s k = 38) (h1 : bt s (k + 1) = 35) : hitB s ⟨#[38, 35]⟩ k = true := by
  have hz : (⟨#[38, 35]⟩ : ByteArray).size = 2 := rfl
  rw [hit_in (by rw [hz]; omega), hz]
  have : s.extract k (k + 2) = ⟨#[38, 35]⟩ := by
    refine ext_bt (by rw [ByteArray.size_extract, hz]; omega) fun q hq => ?_
    rw [ByteArray.size_extract] at hq
    rw [bt_extract s k (k + 2) q (by omega) (by omega)]
    by_cases e : q = 0
    · subst e; rw [Nat.add_zero, h0]; decide
    · obtain rfl : q = 1 := by omega
      rw [h1]; decide
  rw [this]; simp
theorem noNum_of {s : ByteArray} (h : numN s = 0) : NoNum s := by
  intro k hk h0 h1
  unfold numN untilN at h
  rw [if_pos (hit_nil s)] at h
  rcases fst_is s ⟨#[38, 35]⟩ (⟨#[]⟩ : ByteArray).size with ⟨j, g1, _⟩ | ⟨_, g2⟩
  · rw [g1] at h
    have : j + 2 = 0 := h
    omega
  · have := g2 (by show 0 < 2; omega) k (Nat.zero_le _)
    rw [hit_num hk h0 h1] at this; cases this
theorem until_num (s : ByteArray) (w : World) (hs : s.size ≤ 1000) : Calls Tryd.prog 7 #[.string s, .string ⟨#[]⟩, .string ⟨#[38, 35]⟩] w fun e w' => e = .returned (.int .i64 (numN s : Nat)) ∧ w = w' := by
  have C := hide (until_any s ⟨#[]⟩ ⟨#[38, 35]⟩ w (by omega) (by decide) (by decide))
  go_enter Tryd.func7, Tryd.ntmps7
  go_wp2_with (go_at_call 20; refine C.out.mono ?_; rintro e w' ⟨rfl, rfl⟩)
  go_ret
  exact ⟨rfl, rfl⟩
set_option maxHeartbeats 1000000 in
theorem unescape_walk (a0 : ByteArray) (w0 : a0.size ≤ maxLen) (w : World) (hE : EntIs w) :
    Calls Tryd.prog 3 #[.string a0] w fun e w' => e = .returned (.bool true) ∧ Below w.heap.size w w' := by
  have W0 := hide w0
  have HE := hide hE
  clear hE
  unfold maxLen at w0
  by_cases h1 : 2147483647 < (a0.size : Int)
  · go_enter Tryd.func3, Tryd.ntmps3
    go_wp2
    go_ret
    exact ⟨rfl, Below.refl _ _⟩
  by_cases g0 : linedB a0 200 = true
  case neg =>
    have g0 : linedB a0 200 = false := by simpa using g0
    go_enter Tryd.func3, Tryd.ntmps3
    go_wp2_with (go_at_call 5; refine (lined_any _ _ _ W0.out).mono ?_; rintro e w' ⟨rfl, rfl⟩)
    go_ret
    exact ⟨rfl, Below.refl _ _⟩
  obtain ⟨hl, _⟩ := lined_parts g0
  have hs : a0.size ≤ 1000 := by omega
  have O := hide (otherName_any a0 w hs)
  have U := hide (until_num a0 w hs)
  by_cases hn : numN a0 = 0
  case neg =>
    have hnI : (0 : Int) < (numN a0 : Int) := by omega
    clear hn
    go_enter Tryd.func3, Tryd.ntmps3
    go_wp2_with (first | (go_at_call 5; refine (lined_any _ _ _ W0.out).mono ?_; rintro e w' ⟨rfl, rfl⟩) | (go_at_call 6; refine O.out.mono ?_; rintro e w' ⟨(rfl | ⟨rfl, hN⟩), rfl⟩) | (go_at_call 7; refine U.out.mono ?_; rintro e w' ⟨rfl, rfl⟩))
    all_goals
      go_wp2_with (first | (go_at_call 7; refine U.out.mono ?_; rintro e w' ⟨rfl, rfl⟩))
      go_ret
      exact ⟨rfl, Below.refl _ _⟩
  have NN := hide (noNum_of hn)
  rw [hn] at U
  clear hn
  go_enter Tryd.func3, Tryd.ntmps3
  go_wp2_with (first | (go_at_call 5; refine (lined_any _ _ _ W0.out).mono ?_; rintro e w' ⟨rfl, rfl⟩) | (go_at_call 6; refine O.out.mono ?_; rintro e w' ⟨(rfl | ⟨rfl, hN⟩), rfl⟩))
  · go_wp2
    go_ret
    exact ⟨rfl, Below.refl _ _⟩
  · have R := hide (implUnescape_any a0 w hs HE.out hN)
    clear hN
    go_wp2_with (first | (go_at_call 7; refine U.out.mono ?_; rintro e w' ⟨rfl, rfl⟩) | (go_at_call 8; refine R.out.mono ?_; rintro e w1 ⟨rfl, hb1⟩) | (go_at_call 9; refine (unescapeS_any a0 _ hs NN.out).mono ?_; rintro e w' ⟨rfl, rfl⟩))
    go_ret
    exact ⟨ret_bool (by simp), hb1⟩
end Go.Proofs.YteondohagdfgeaaDoor
namespace Go.Proofs.YteondohagdfgeaaDoor.fnUnescape
open Go.ChangeShapes Go.WideShapes Go.ChangeAt Go.RowKit
open Go.ChangeMaps (open_string shut_string)
set_option linter.unusedVariables false
theorem contract (H : Type) (enc : TypeId × Value → H) (W : World) (base : Nat) (args : Array Value) (ds gs : List (DataW H)) (before : List MemPlace)
    (hval : ∀ (j : Nat) t v, Tryd.f3.params[j]? = some t → args[j]? = some v → Value.okWide Tryd.prog W .any base t v)
    (hW : DataW.Whole enc Tryd.prog Tryd.f3.params.toList Rows.fnUnescapeSpec.vars false W args.toList ds gs before) (hL : laidMetH Tryd.prog Rows.fnUnescapeRow.laid W) :
    Calls Tryd.prog 3 args W fun e W' => ∃ v, e = .returned v ∧ Rows.fnUnescapeSpec.post enc Tryd.prog Tryd.f3 false true false false W args v W' := by
  have hW' := hW
  obtain ⟨p, q, hA0, hV, rfl, hfz, hnd⟩ := hW
  have hA : DataW.TrodAll enc Tryd.prog W 0 (fun _ => true) true Tryd.f3.params.toList args.toList ds p := hA0
  rw [Tryd.params3] at hA hval
  obtain ⟨v0, vs0, d0, ds0, p0, q0, hargs, rfl, rfl, h0, r0⟩ := trodAll_cons hA
  obtain ⟨rfl, rfl, rfl⟩ := trodAll_nil r0
  obtain rfl : args = #[v0] := by cases args; simp_all
  obtain ⟨rfl, rfl⟩ := trodVars_none hV
  obtain ⟨a0, rfl, rfl, rfl, w0⟩ := open_string Tryd.underlying9 (hval 0 9 v0 rfl rfl) h0
  clear hA0
  simp only [List.append_nil] at hW'
  refine (unescape_walk a0 w0 W (entIs_of hL)).mono fun e W' ⟨he, hg⟩ => ?_
  subst he
  exact ⟨_, rfl, post_of_below (pa := []) (pv := []) hW' (fun _ _ _ => (trodAll_cons_mk (shut_bool Tryd.underlying4 _) trodAll_mk0)) (fun sp _ => (trodAll_cons_mk (shut_string Tryd.underlying9 w0) trodAll_mk0)) (fun _ _ => rfl) rfl
    hg (ok_one (by kernel_rfl) rfl (okWide_bool_mk Tryd.underlying4 _))⟩
theorem laid_met (os : Os) : laidMet Tryd.prog Rows.fnUnescapeRow.laid ((laidWorld os).forCall (fun _ _ => 0) ⟨#[], #[.string ByteArray.empty], []⟩).memory :=
  laidMet_of_run' 8 (by kernel_rfl) (by kernel_rfl)
theorem reads (os : Os) {H : Type} (enc : TypeId × Value → H) : ∃ places, DataW.whole enc Tryd.prog ((laidWorld os).forCall (fun _ _ => 0) ⟨#[], #[.string ByteArray.empty], []⟩).memory Tryd.f3.params.toList Rows.fnUnescapeSpec.vars false #[Value.string ByteArray.empty].toList 8 = some ([.lit (.string [])], [], places) :=
  ⟨[], by kernel_rfl⟩
set_option maxRecDepth 100000 in
theorem lifted (os : Os) (started : os.Started) (H : Type) (enc : TypeId × Value → H) (F : Stop.Interp) :
    ReturnsInHanded {} Tryd.checked os 3 .any ((OpenSpec.ofChange Rows.fnUnescapeSpec).preRow enc Tryd.prog Tryd.f3 Rows.fnUnescapeRow.domain false Rows.fnUnescapeRow.laid) (((OpenSpec.ofChange Rows.fnUnescapeSpec).at F).post enc Tryd.prog Tryd.f3 false true false false) := by
  obtain ⟨places, hx⟩ := reads os enc
  refine returnsInHanded_of_row (C := Tryd.checked) (s := OpenSpec.ofChange Rows.fnUnescapeSpec) own started (by kernel_rfl) Tryd.func3
    (witness_row_at (enc := enc) (C := Tryd.checked) false (laidWorld os) #[.string ByteArray.empty] rfl (by kernel_rfl) (by kernel_rfl) (by kernel_rfl)
      (OpenSpec.preRow_of_cond 8 hx (by kernel_rfl) (fun k hk => by cases hk) (by kernel_rfl) (laid_met os))) ?_
  intro W base args ds gs before hval hW _ _ _ hL _ _
  exact contract H enc W base args ds gs before hval hW hL
theorem said : Rows.FnUnescapeSaid :=
  OpenClaim.holds_of_cond 3 Tryd.f3 rfl rfl rfl rfl rfl rfl rfl ⟨rfl, rfl, rfl, rfl, rfl⟩ rfl rfl rfl rfl rfl (by kernel_rfl) Tryd.func3 (by kernel_rfl)
    (of_decide_eq_true (by kernel_rfl)) (by unfold Func.isWrapper; first | (rw [if_pos (by decide +kernel)]; kernel_rfl) | (rw [if_neg (by decide +kernel)]; exact ⟨rfl, rfl⟩))
    (fun os started H enc _ F => by rw [OpenClaim.pre_eq_preRow]; exact lifted os started H enc F)
theorem plain (f : FuncId) (fn : Func) (hf : Tryd.pinned.checked.prog.funcNamed "pub-paratext/laws.FnUnescape" = some f) (hfn : Tryd.pinned.checked.prog.funcs[f]? = some fn) :
    false = Tryd.pinned.checked.prog.looks [] ∧ ∀ (j : Nat) t, fn.params[j]? = some t → Tryd.pinned.checked.prog.wantsStandIn t = false := by
  obtain rfl : f = 3 := Option.some.inj ((show Tryd.prog.funcNamed "pub-paratext/laws.FnUnescape" = some 3 by kernel_rfl).symm.trans hf) |>.symm
  obtain rfl : fn = Tryd.f3 := (Option.some.inj (Tryd.func3.symm.trans hfn)).symm
  refine ⟨by kernel_rfl, fun j t ht => ?_⟩
  rw [Tryd.params3] at ht
  obtain rfl : t = 9 := by simpa using Array.mem_of_getElem? ht
  exact (show Tryd.prog.wantsStandIn 9 = false by kernel_rfl)
/-- The card. -/
theorem card : Rows.FnUnescapeCardSaid :=
  Claim7.holds_tied_plain_at .later [] _ _ _ _ said (fun _ h => by cases h) (by kernel_rfl) (fun _ h => by cases h) fnUnescape_row_tie rfl ⟨rfl, rfl⟩ (by kernel_rfl) rfl plain (by kernel_rfl)
#print axioms card
end Go.Proofs.YteondohagdfgeaaDoor.fnUnescape
