/- What it is that a value of an interface prints HTML: told by a contract, so that no law need ask of what type it is. Plain definitions; which method is found. Conditions: as each states them. -/
import Derived.Test.YtipniinmajoolaaGreatDoorTr1
namespace Go.Proofs.YtipniinmajoolaaGreatDoor
open Go.RowKit
/-- A call of the method on a pointer of the type leads to the function. -/
def Disp (P : Program) (T : TypeId) (m : String) (f : FuncId) : Prop := ∀ (ρ : Operand → Value) (o : Oper) (x y : Operand) (ty : TypeId) (g : Nat) (w : World), o.op = .call { callee := .invoke x m, args := #[y], argTypes := #[ty] } → ρ x = .iface T (ptr g) →
  (execOp ρ o).run P w = .ok (.enter f #[ptr g, ρ y]) w
section
variable {P : Program}
theorem wpList_invoke {ops : Array Oper} {rest : List Oper} {op : Oper} {a : Act} {w : World} {Q : Exit → Act → World → Prop} (hgd : op.guard = none) (x y : Operand) (m : String) (ty : TypeId) (ho : op.op = .call { callee := .invoke x m, args := #[y], argTypes := #[ty] })
    (T : TypeId) (g : Nat) (f : FuncId) (hx : a.eval x = .iface T (ptr g)) (hD : Disp P T m f) (R : World → Prop) (v : Value) (hy : a.eval y = v) (hC : Calls P f #[ptr g, v] w fun e w' => e = .returned (.tuple #[]) ∧ R w')
    (h : ∀ w', R w' → wpList P ops Q rest (a.put op.dst (.tuple #[])) w') : wpList P ops Q (op :: rest) a w :=
  wpList_plain hgd fun K hK => by
    unfold Oper.wp
    rw [hD a.eval op x y ty g w ho hx, hy, Oper.upon_enter]
    refine hC.mono ?_
    rintro e w' ⟨rfl, hR⟩
    exact hK _ _ (h w' hR)
/-- An assertion of a pointer's type, the type being another. -/
theorem wpList_assert_no {ops : Array Oper} {rest : List Oper} {op : Oper} {a : Act} {w : World} {Q : Exit → Act → World → Prop} (hgd : op.guard = none) (x : Operand) (xT aT e : TypeId) (ho : op.op = .typeAssert x xT aT true)
    (T : TypeId) (v : Value) (hx : a.eval x = .iface T v) (hT : T ≠ aT) (hu : P.underlying aT = some (.pointer e)) (hz : (zeroValue aT).run P w = .ok (.pointer none) w)
    (h : wpList P ops Q rest (a.put op.dst (.tuple #[.pointer none, .bool false])) w) : wpList P ops Q (op :: rest) a w :=
  wpList_plain hgd fun K hK => by
    unfold Oper.wp execOp
    simp only [ho, hx]
    simp [Instr.typeAssert, run_underlying hu, hT, hz, Result.andThen, Oper.upon_value]
    exact hK _ _ h
end
/-- It is empty, or it ends with a line feed. -/
def LineEnd (t : ByteArray) : Prop := t.size = 0 ∨ bt t (t.size - 1) = 10
def EndLf (t : ByteArray) : Prop := 0 < t.size ∧ bt t (t.size - 1) = 10
theorem EndLf.lineEnd {t : ByteArray} (h : EndLf t) : LineEnd t := .inr h.2
theorem EndLf.app (s : ByteArray) {t : ByteArray} (h : EndLf t) : EndLf (s ++ t) := by
  obtain ⟨h1, h2⟩ := h
  refine ⟨by rw [ByteArray.size_append]; omega, ?_⟩
  rw [ByteArray.size_append, show s.size + t.size - 1 = s.size + (t.size - 1) by omega, bt_right]
  exact h2
/-- The function writes the HTML of the block, in every later world in which a buffer behind w holds a text that C takes. -/
def PrB (C : ByteArray → Prop) (w : World) (g f : Nat) (y : ByteArray) : Prop :=
  ∀ (w' : World) (B b : Nat) (tx : ByteArray), w.heap.size ≤ b → Lib.OthersKept 5 (some b) w w' → HoldsU B b tx w' → B ≤ w'.heap.size → tx.size + y.size ≤ 100000000000000 → C tx →
    Calls Tryz.prog f #[ptr g, ptr b] w' fun e w'' => e = .returned (.tuple #[]) ∧ Wrote B b tx y w' w''
/-- An inline, a block (t: a Text) of the package, by the HTML that it prints. -/
def PrI (w : World) (v : Value) (y : ByteArray) : Prop := ∃ (T g f : Nat), v = .iface T (ptr g) ∧ Disp Tryz.prog T "PrintHTML" f ∧ PrB (fun _ => True) w g f y
def PrK (w : World) (v : Value) (t : Bool) (y : ByteArray) : Prop := ∃ (T g f : Nat), v = .iface T (ptr g) ∧ Disp Tryz.prog T "PrintHTML" f ∧ (t = true → T = 77) ∧ (t = false → T ≠ 77 ∧ EndLf y) ∧ PrB (fun tx => t = false → LineEnd tx) w g f y
theorem ObjAt.later {w w' : World} {g b : Nat} {cs : Array Value} {T : TypeId} (h : ObjAt w g cs T) (hO : Lib.OthersKept 5 (some b) w w') (hb : w.heap.size ≤ b) (hT : T ≠ 5) : ObjAt w' g cs T :=
  hO g _ h (fun e => by have := h.lt; have := Option.some.inj e; omega) (fun c fz e => by injection e with _ e2 _; exact hT e2)
/-- A row of values. -/
def RowV (T : TypeId) (w : World) (r n : Nat) (vs : Nat → Value) : Prop := ∃ cur, ObjAt w r cur T ∧ ∀ k, k < n → cur[k]? = some (vs k)
theorem RowV.later {T : TypeId} {w w' : World} {r n b : Nat} {vs : Nat → Value} (h : RowV T w r n vs) (hO : Lib.OthersKept 5 (some b) w w') (hb : w.heap.size ≤ b) (hT : T ≠ 5) : RowV T w' r n vs := by
  obtain ⟨cur, h1, h2⟩ := h; exact ⟨cur, h1.later hO hb hT, h2⟩
theorem RowV.cell {T : TypeId} {w : World} {r n k : Nat} {vs : Nat → Value} (h : RowV T w r n vs) (hk : k < n) : w.cell? ⟨r, k, none⟩ = some (vs k) := by
  obtain ⟨cur, h1, h2⟩ := h
  rw [h1.cell, h2 k hk]
/-- The row behind a slice. -/
def RowIs (T : TypeId) (w : World) (v : Value) (n : Nat) (vs : Nat → Value) : Prop := ∃ (ao : Option Addr) (cap : Nat), v = .slice ao n cap ∧ n ≤ 9223372036854775807 ∧ (0 < n → ∃ r, ao = some ⟨r, 0, none⟩ ∧ RowV T w r n vs)
theorem wrote_refl {B b : Nat} {t : ByteArray} {w : World} (h : HoldsU B b t w) : Wrote B b t ByteArray.empty w w := ⟨by rw [ByteArray.append_empty]; exact h, Below.refl _ _, Lib.OthersKept.refl _ _ _⟩
theorem Wrote.trans {B b : Nat} {t y z : ByteArray} {w w1 w2 : World} (h : Wrote B b t y w w1) (k : Wrote B b (t ++ y) z w1 w2) : Wrote B b t (y ++ z) w w2 :=
  ⟨by rw [← ByteArray.append_assoc]; exact k.1, h.2.1.trans k.2.1, h.2.2.trans k.2.2⟩
theorem catY_mono (ys : Nat → ByteArray) : ∀ {m n : Nat}, m ≤ n → (catY ys m).size ≤ (catY ys n).size
  | m, 0, h => by obtain rfl : m = 0 := by omega
                  exact Nat.le_refl _
  | m, n + 1, h => by
    by_cases e : m = n + 1
    · subst e; exact Nat.le_refl _
    · have := catY_mono ys (m := m) (n := n) (by omega)
      rw [catY, ByteArray.size_append]; omega
theorem catY_room (ys : Nat → ByteArray) {m n : Nat} (h : m < n) : (catY ys m).size + (ys m).size ≤ (catY ys n).size := by
  have := catY_mono ys (m := m + 1) (n := n) h
  rw [catY, ByteArray.size_append] at this; exact this
/-- A write of the buffer, in these words. -/
theorem wroteU (B b : Nat) (t s : ByteArray) (w : World) (h : HoldsU B b t w) (hlen : t.size + s.size ≤ 140737488355328) (hBw : B ≤ w.heap.size) :
    Calls Tryz.prog 88 #[.pointer (some ⟨b, 0, none⟩), .string s] w fun e w' => e = .returned (.tuple #[.int .i64 s.size, .nilIface]) ∧ Wrote B b t s w w' :=
  writeU_string B b t s w h hlen hBw
set_option maxHeartbeats 1000000 in
set_option maxRecDepth 100000 in
theorem text_prints (w : World) (g : Nat) (p1 p2 : Int) (raw : ByteArray) (ks : Value) (n : Nat) (vs : Nat → Value) (ys : Nat → ByteArray) (ho : ObjAt w g #[.int .i64 p1, .int .i64 p2, ks, .string raw] 119) (hr : RowIs 141 w ks n vs)
    (hk : ∀ k, k < n → PrI w (vs k) (ys k)) : PrB (fun _ => True) w g 115 (catY ys n) := by
  intro w' B b tx hb hO hH hBs hsz _
  have ho' := ho.later hO hb (by decide)
  obtain ⟨ao, cap, rfl, hn, hr⟩ := hr
  have hc : w'.cell? ⟨g, 2, none⟩ = some (.slice ao n cap) := (ho'.cell 2).trans rfl
  have HR := hide hr
  have HK := hide hk
  have HO := hide hO
  have HH := hide hH
  clear hr hk hO hH ho ho'
  go_enter Tryz.func115, Tryz.ntmps115
  go_wp2
  go_loopw [11] (fun kv wr => ∃ m : Nat, m ≤ n ∧ kv = .int .i64 m ∧ Hid (Wrote B b tx (catY ys m) w' wr)) (fun kv _ => n - (intOf kv).toNat)
  case atStart => exact ⟨0, by omega, rfl, hide (wrote_refl HH.out)⟩
  case round =>
    obtain ⟨m, hm, rfl, HW⟩ := hrel
    by_cases hlt : m < n
    · have hltI : (m : Int) < (n : Int) := by omega
      obtain ⟨r, rfl, hrow⟩ := HR.out (by omega)
      have hcell := (hrow.later (HO.out.trans HW.out.2.2) hb (by decide)).cell hlt
      obtain ⟨T, gk, f, hv, hD, hP⟩ := HK.out m hlt
      rw [hv] at hcell
      have hroom := catY_room ys hlt
      have CP := hide (hP wr B b (tx ++ catY ys m) hb (HO.out.trans HW.out.2.2) HW.out.1 (Nat.le_trans hBs HW.out.2.1.size) (by rw [ByteArray.size_append]; omega) trivial)
      have HD := hide hD
      clear hv hD hP hrow hroom
      go_wp2_with (with_reducible refine wpList_invoke ?_ (.tmp 15) (.tmp 16) "PrintHTML" 57 ?_ T gk f ?_ HD.out _ (ptr b) ?_ CP.out ?_; exact rfl; exact rfl; (simp [go_sem]); (simp [go_sem]); rintro w1 hW1; have HW1 := hide hW1; clear hW1)
      go_roundw
      case rel => exact ⟨m + 1, by omega, by go_num, hide (HW.out.trans HW1.out)⟩
      case measure => simp [intOf]; omega
    · have hmn : Hid (m = n) := by unfold Hid; omega
      have hltI : ¬ ((m : Int) < (n : Int)) := by omega
      clear hlt
      go_wp2
      go_end0
      exact ⟨rfl, by have := HW.out; rw [hmn.out] at this; exact this⟩
end Go.Proofs.YtipniinmajoolaaGreatDoor
