/- Plain lemmas (no program in sight, but for laws over any program): bytes of strings as numbers, the string that a row of bytes makes, the row's last step where only 'Below' is known of the world. Conditions: as each states them. -/
import Derived.WalkKit
import Derived.BigQuiet
import Derived.WalkSpells
import Derived.Deep.RegionWith
import Derived.Handy
import Derived.Below
import Derived.ChangeSame
import Derived.Lib.Bytealg
namespace Go.Proofs.YtipniinmajoolaaGreatDoor
open Go.RowKit Go.WideShapes Go.ChangeShapes

theorem hide {p : Prop} (h : p) : Hid p := h
theorem ret_bool {a b : Bool} (h : a = b) : Ending.returned (.bool a) = .returned (.bool b) := by rw [h]
theorem ret_int {k : IntKind} {a b : Int} (h : a = b) : Ending.returned (.int k a) = .returned (.int k b) := by rw [h]
theorem ret_int2 {k : IntKind} {a b : Int} {v : Value} (h : a = b) : Ending.returned (.tuple #[.int k a, v]) = .returned (.tuple #[.int k b, v]) := by rw [h]
theorem ret_mid {k : IntKind} {a b : Int} {v u : Value} (h : a = b) : Ending.returned (.tuple #[v, .int k a, u]) = .returned (.tuple #[v, .int k b, u]) := by rw [h]
theorem ret_str {a b : ByteArray} (h : a = b) : Ending.returned (.string a) = .returned (.string b) := by rw [h]

theorem below_drewN {B : Nat} {a w : World} (h : Below B a w) (n : Nat) : Below B a (w.drewN n) := ⟨h.os, h.tape, h.output, h.size, h.block⟩
/-! Bytes of a string as numbers. -/
def bt (s : ByteArray) (k : Nat) : Int := if h : k < s.size then ((s[k]'h).toNat : Int) else 0
theorem get_bt (s : ByteArray) : ∀ (n : Nat) (h : n < s.size), ((s[n]'h).toNat : Int) = bt s n := fun n h => by unfold bt; rw [dif_pos h]
theorem bt_nonneg (s : ByteArray) (k : Nat) : 0 ≤ bt s k := by unfold bt; split <;> omega
theorem bt_le (s : ByteArray) (k : Nat) : bt s k ≤ 255 := by
  unfold bt; split
  · have := (s[k]).toNat_lt; omega
  · omega
theorem bt_end (s : ByteArray) {k : Nat} (h : s.size ≤ k) : bt s k = 0 := by unfold bt; rw [dif_neg (by omega)]
theorem bt_list (s : ByteArray) {k : Nat} (h : k < s.size) : s.data.toList[k]? = some (UInt8.ofNat (bt s k).toNat) := by
  have h' : k < s.data.toList.length := by simpa using h
  rw [List.getElem?_eq_getElem h', ← get_bt s k h, Int.toNat_natCast, UInt8.ofNat_toNat]
  rfl
theorem ext_bt {s t : ByteArray} (hs : s.size = t.size) (h : ∀ k, k < s.size → bt s k = bt t k) : s = t := by
  apply ByteArray.ext
  apply Array.ext
  · exact hs
  · intro i h1 h2
    have h3 := h i h1
    rw [← get_bt s i h1, ← get_bt t i h2] at h3
    exact UInt8.toNat_inj.1 (Int.ofNat.inj h3)
theorem bt_extract (s : ByteArray) (i j k : Nat) (h : i + k < j) (hj : j ≤ s.size) : bt (s.extract i j) k = bt s (i + k) := by
  have h1 : k < (s.extract i j).size := by rw [ByteArray.size_extract]; omega
  rw [← get_bt _ k h1, ← get_bt s (i + k) (by omega)]
  rw [ByteArray.getElem_extract]

theorem nonempty_of {s : ByteArray} (h : 0 < s.size) : s.toList.isEmpty = false := by
  rw [Lib.toList_data]
  cases hl : s.data.toList with
  | nil => have hz : s.data.toList.length = s.size := rfl
           rw [hl] at hz
           have hz' : 0 = s.size := hz
           omega
  | cons a l => rfl
theorem empty_of {s : ByteArray} (h : s.size = 0) : s.toList.isEmpty = true := by
  rw [Lib.toList_data]
  have h' : s.data.toList.length = 0 := by simpa using h
  rw [List.eq_nil_of_length_eq_zero h']; rfl
/-! Pieces of a text. -/
def strSize : Value → Nat | .string x => x.size | _ => 0
theorem ex_tail {s t : ByteArray} {k m : Nat} (h : t = s.extract k m) (hm : m ≤ s.size) (hk : k < m) : t.extract 1 t.size = s.extract (k + 1) m := by
  subst h
  rw [ByteArray.extract_extract, ByteArray.size_extract]
  congr 1; omega
theorem ex_init {s t : ByteArray} {k m : Nat} (h : t = s.extract k m) (hm : m ≤ s.size) (hk : k < m) : t.extract 0 (t.size - 1) = s.extract k (m - 1) := by
  subst h
  rw [ByteArray.extract_extract, ByteArray.size_extract]
  congr 1; omega
theorem ex_size {s t : ByteArray} {k m : Nat} (h : t = s.extract k m) (hm : m ≤ s.size) : t.size = m - k := by
  subst h; rw [ByteArray.size_extract]; omega
theorem ex_bt {s t : ByteArray} {k m i : Nat} (h : t = s.extract k m) (hm : m ≤ s.size) (hi : k + i < m) : bt t i = bt s (k + i) := by
  subst h; exact bt_extract s k m i hi hm
/-- The one cell of a new block. -/
theorem cellOne (w : World) (x : Value) (t : TypeId) : ∀ j u, [x][j]? = some u → (w.alloc (.cells #[x] t)).cell? ((⟨w.heap.size, 0, none⟩ : Addr).add j) = some u := by
  intro j u hj
  cases j with
  | zero =>
    simp at hj
    subst hj
    simp [Addr.add]
  | succ j => simp at hj
theorem bt_left (a b : ByteArray) {k : Nat} (h : k < a.size) : bt (a ++ b) k = bt a k := by
  have h1 : k < (a ++ b).size := by rw [ByteArray.size_append]; omega
  rw [← get_bt _ k h1, ← get_bt a k h, ByteArray.getElem_append_left h]
theorem bt_right (a b : ByteArray) (k : Nat) : bt (a ++ b) (a.size + k) = bt b k := by
  by_cases h : k < b.size
  · have h1 : a.size + k < (a ++ b).size := by rw [ByteArray.size_append]; omega
    rw [← get_bt _ _ h1, ← get_bt b k h, ByteArray.getElem_append_right (by omega)]
    simp
  · rw [bt_end _ (by rw [ByteArray.size_append]; omega), bt_end _ (by omega)]
/-- What holds of the number of each byte holds of the bytes of a text. -/
theorem byte_all {q : Int → Bool} (h : ∀ n : Fin 256, q (n.val : Int) = true) (s : ByteArray) (k : Nat) : q (bt s k) = true := by
  have h0 := bt_nonneg s k
  have h1 := bt_le s k
  have h2 := h ⟨(bt s k).toNat, by omega⟩
  have e : ((bt s k).toNat : Int) = bt s k := by omega
  simp only [e] at h2
  exact h2
/-! The string that bytes make. -/
def bytesOf (zs : List Int) : ByteArray := zs.foldl (fun r n => r.push (UInt8.ofNat n.toNat)) ByteArray.empty
theorem foldl_push (zs : List Int) : ∀ r : ByteArray, (zs.foldl (fun r n => r.push (UInt8.ofNat n.toNat)) r).data.toList = r.data.toList ++ zs.map (fun n => UInt8.ofNat n.toNat) := by
  induction zs with
  | nil => intro r; simp
  | cons z zs ih => intro r; rw [List.foldl_cons, ih]; simp [ByteArray.push]
theorem bytesOf_list (zs : List Int) : (bytesOf zs).data.toList = zs.map (fun n => UInt8.ofNat n.toNat) := by
  unfold bytesOf; rw [foldl_push]; rfl
theorem bytesOf_size (zs : List Int) : (bytesOf zs).size = zs.length := by
  have := congrArg List.length (bytesOf_list zs); simpa using this
theorem bytesOf_bt (zs : List Int) (hz : ∀ z ∈ zs, 0 ≤ z ∧ z ≤ 255) (k : Nat) (hk : k < zs.length) : bt (bytesOf zs) k = zs.getD k 0 := by
  have h1 : k < (bytesOf zs).size := by rw [bytesOf_size]; exact hk
  have h2 := bt_list _ h1
  rw [bytesOf_list, List.getElem?_map, List.getElem?_eq_getElem hk, Option.map_some, Option.some.injEq] at h2
  have h3 := congrArg UInt8.toNat h2
  have hm := hz _ (List.getElem_mem hk)
  have hb := bt_nonneg (bytesOf zs) k
  have hc := bt_le (bytesOf zs) k
  rw [UInt8.toNat_ofNat', UInt8.toNat_ofNat'] at h3
  rw [List.getD_eq_getElem?_getD, List.getElem?_eq_getElem hk, Option.getD_some]
  omega
theorem bytesOf_eq {zs : List Int} {s : ByteArray} (hl : zs.length = s.size) (h : ∀ k, k < s.size → zs.getD k 0 = bt s k) : bytesOf zs = s := by
  have hz : ∀ z ∈ zs, 0 ≤ z ∧ z ≤ 255 := by
    intro z hm
    obtain ⟨k, hk, rfl⟩ := List.mem_iff_getElem.1 hm
    have := h k (by omega)
    rw [List.getD_eq_getElem?_getD, List.getElem?_eq_getElem hk, Option.getD_some] at this
    rw [this]; exact ⟨bt_nonneg _ _, bt_le _ _⟩
  refine ext_bt (by rw [bytesOf_size]; exact hl) fun k hk => ?_
  rw [bytesOf_size] at hk
  rw [bytesOf_bt zs hz k hk, h k (by omega)]

/-- 'string(b)' of a row of the call's own. -/
theorem run_conv_own {P : Program} (src dst e : TypeId) (hs : P.underlying src = some (.slice e)) (he : P.underlying e = some (.int .u8)) (hd : P.underlying dst = some .string)
    {w : World} {base : Nat} {v : Value} {n : Nat} {zs : List Int} (hown : w.ownsRow base e 1 v n (zs.map (Value.int .u8))) :
    (convert src dst v).run P w = .ok (.string (bytesOf zs)) w := by
  obtain ⟨hl, h⟩ := hown
  rw [List.length_map, Nat.mul_one] at hl
  rcases h with ⟨rfl, rfl⟩ | ⟨g, cap, cur, rfl, hg, hh, hn, hc, hsz, ht⟩
  · have : zs = [] := List.eq_nil_of_length_eq_zero hl
    subst this
    rw [run_convert_bytes_string w src dst e none 0 0 hs he hd]
    rfl
  · rw [run_convert_bytes_string w src dst e _ _ _ hs he hd]
    have hown : w.ownsRow base e 1 (.slice (some ⟨g, 0, none⟩) n cap) n (zs.map (Value.int .u8)) := ⟨by simpa using hl, .inr ⟨g, cap, cur, rfl, hg, hh, hn, hc, hsz, ht⟩⟩
    refine run_bytesToString w _ _ _ _ ?_
    have hcells := hown.cells (g := g) rfl
    have := run_loadCells_list (P := P) (w := w) ⟨g, 0, none⟩ (zs.map (Value.int .u8)) hcells
    rw [List.length_map, hl] at this
    exact this

section
variable {H : Type} {enc : TypeId × Value → H} {P : Program}
/-- The row's last step where of the world behind the call 'Below' alone is known. -/
theorem post_of_below {f : Func} {s : ChangeSpec} {apart fresh handsOn again : Bool} {W W' : World} {args : Array Value} {v : Value} {ds gs : List (DataW H)} {before pa pv : List MemPlace}
    (hW : DataW.Whole enc P f.params.toList s.vars apart W args.toList ds gs before)
    (hres : ∀ (b : Nat) (sp : Nat → Bool) (hd : Bool), DataW.TrodAll enc P W' b sp hd f.resultTypes.toList (v.resultList f.resultTypes.size) (s.fn H (ds ++ gs)).results [])
    (hargs : ∀ sp : Nat → Bool, (∀ p ∈ before, sp p.block = true) → DataW.TrodAll enc P W' 0 sp true f.params.toList args.toList (s.fn H (ds ++ gs)).args pa)
    (hvars : ∀ sp : Nat → Bool, (∀ p ∈ before, sp p.block = true) → DataW.TrodVars enc P W' sp s.vars (s.fn H (ds ++ gs)).vars pv)
    (hps : before = pa ++ pv) (hb : Below W.heap.size W W')
    (hok : ∀ (j : Nat) (t : TypeId) (r : Value), f.resultTypes[j]? = some t → (v.resultList f.resultTypes.size)[j]? = some r → Value.okWide P W' .any 0 t r) :
    s.post enc P f apart fresh handsOn again W args v W' := by
  have hlt : ∀ p ∈ before, p.block < W.heap.size := fun p hp => hW.lt p hp
  have hold : ∀ p ∈ before, (fun b => decide (b < W.heap.size)) p.block = true := fun p hp => by simpa using hlt p hp
  refine ⟨ds, gs, before, [], pa, pv, hW, hres _ _ _, hargs _ hold, hvars _ hold, World.keptBut_mono (fun p hp => ⟨hp, ?_⟩) (hb.frame (· ∈ before)), fun _ => ?_⟩
  · rw [hps, List.mem_append] at hp
    exact Or.inr hp
  · obtain ⟨_, _, _, _, _, hz, hn⟩ := hW
    refine ⟨hok, _, _, ([] ++ pa) ++ pv, ⟨[] ++ pa, pv, trodAll_append (hargs _ (fun _ _ => rfl)) (hres _ _ _), hvars _ (fun _ _ => rfl), rfl, ?_, ?_⟩, ?_⟩
    · intro b off hp
      have hin : MemPlace.cell b off ∈ before := by rw [hps]; simpa using hp
      rw [hb.frozen (hlt _ hin)]
      exact hz b off hin
    · intro ha
      have := hn ha
      rw [hps] at this
      simpa using this
    · intro p hp _
      rw [hps]
      simpa using hp
end

/-! What IndexByte gives. -/
theorem indexByte_neg {l : List UInt8} {c : UInt8} (h : c ∉ l) : Lib.indexByte l c = -1 := by
  induction l with
  | nil => rfl
  | cons b l ih =>
    have h1 : (b == c) = false := by rw [beq_eq_false_iff_ne]; rintro rfl; simp at h
    have h2 := ih (by intro h3; exact h (List.mem_cons_of_mem _ h3))
    unfold Lib.indexByte
    rw [if_neg (by simp [h1]), if_pos (by simp [h2])]
theorem indexByte_pos {l : List UInt8} {c : UInt8} (h : c ∈ l) : 0 ≤ Lib.indexByte l c := by
  induction l with
  | nil => cases h
  | cons b l ih =>
    unfold Lib.indexByte
    by_cases hb : (b == c) = true
    · rw [if_pos hb]; omega
    · have hne : b ≠ c := by simpa using hb
      have hm : c ∈ l := by
        rcases List.mem_cons.1 h with e | e
        · exact absurd e.symm hne
        · exact e
      have h2 := ih hm
      rw [if_neg hb, if_neg (by simp; omega)]
      omega
/-- Is the byte in the alphabet? -/
def inA (A : ByteArray) (c : Int) : Bool := A.data.toList.contains (UInt8.ofNat c.toNat)
theorem inA_idx (A : ByteArray) (c : Int) : decide (Lib.indexByte A.data.toList (UInt8.ofNat c.toNat) < 0) = !inA A c := by
  by_cases h : inA A c = true
  · have h1 : UInt8.ofNat c.toNat ∈ A.data.toList := by simpa [inA] using h
    have := indexByte_pos h1
    rw [h]; simp; omega
  · have h1 : UInt8.ofNat c.toNat ∉ A.data.toList := by simpa [inA] using h
    have := indexByte_neg h1
    have h' : inA A c = false := by simpa using h
    rw [h', this]; decide
/-- All bytes below a place meet a test. -/
def allB (n : Nat) (p : Nat → Bool) : Bool := decide (∀ k, k < n → p k = true)
theorem allB_no {n : Nat} {p : Nat → Bool} {k : Nat} (hk : k < n) (h : p k = false) : allB n p = false := by
  unfold allB; rw [decide_eq_false_iff_not]; intro h'; rw [h' k hk] at h; cases h
theorem allB_yes {n : Nat} {p : Nat → Bool} (h : ∀ k, k < n → p k = true) : allB n p = true := by
  unfold allB; rw [decide_eq_true_iff]; exact h
theorem allB_all {n : Nat} {p : Nat → Bool} (h : allB n p = true) : ∀ k, k < n → p k = true := by
  unfold allB at h; rwa [decide_eq_true_iff] at h

/-! The place behind the bytes, from a place on, that meet a test. -/
def scanF (p : Int → Bool) (s : ByteArray) : Nat → Nat → Nat
  | 0, i => i
  | n + 1, i => if i < s.size ∧ p (bt s i) = true then scanF p s n (i + 1) else i
def scan (p : Int → Bool) (s : ByteArray) (i : Nat) : Nat := scanF p s (s.size - i) i
theorem scanF_eq (p : Int → Bool) (s : ByteArray) : ∀ (n i j : Nat), s.size - i ≤ n → i ≤ j → j ≤ s.size → (∀ k, i ≤ k → k < j → p (bt s k) = true) → (j = s.size ∨ p (bt s j) = false) → scanF p s n i = j
  | 0, i, j, hn, hij, hj, _, _ => by unfold scanF; omega
  | n + 1, i, j, hn, hij, hj, ha, he => by
    unfold scanF
    by_cases e : i = j
    · subst e
      rw [if_neg]
      rintro ⟨h1, h2⟩
      rcases he with h | h
      · omega
      · rw [h] at h2; cases h2
    · rw [if_pos ⟨by omega, ha i (Nat.le_refl _) (by omega)⟩]
      exact scanF_eq p s n (i + 1) j (by omega) (by omega) hj (fun k h1 h2 => ha k (by omega) h2) he
theorem scan_eq {p : Int → Bool} {s : ByteArray} {i j : Nat} (hij : i ≤ j) (hj : j ≤ s.size) (ha : ∀ k, i ≤ k → k < j → p (bt s k) = true) (he : j = s.size ∨ p (bt s j) = false) : scan p s i = j :=
  scanF_eq p s _ i j (Nat.le_refl _) hij hj ha he
theorem scanF_is (p : Int → Bool) (s : ByteArray) : ∀ (n i : Nat), s.size - i ≤ n → i ≤ s.size → i ≤ scanF p s n i ∧ scanF p s n i ≤ s.size ∧ (∀ k, i ≤ k → k < scanF p s n i → p (bt s k) = true) ∧ (scanF p s n i = s.size ∨ p (bt s (scanF p s n i)) = false)
  | 0, i, hn, hi => by
    unfold scanF; exact ⟨Nat.le_refl _, hi, fun k h1 h2 => absurd h1 (by omega), .inl (by omega)⟩
  | n + 1, i, hn, hi => by
    unfold scanF
    by_cases h : i < s.size ∧ p (bt s i) = true
    · rw [if_pos h]
      obtain ⟨h1, h2, h3, h4⟩ := scanF_is p s n (i + 1) (by omega) (by omega)
      refine ⟨by omega, h2, fun k a b => ?_, h4⟩
      by_cases e : k = i
      · subst e; exact h.2
      · exact h3 k (by omega) b
    · rw [if_neg h]
      refine ⟨Nat.le_refl _, hi, fun k a b => absurd a (by omega), ?_⟩
      by_cases e : i = s.size
      · exact .inl e
      · right
        have h' : ¬ p (bt s i) = true := fun x => h ⟨by omega, x⟩
        simpa using h'
theorem scan_is (p : Int → Bool) (s : ByteArray) {i : Nat} (hi : i ≤ s.size) : i ≤ scan p s i ∧ scan p s i ≤ s.size ∧ (∀ k, i ≤ k → k < scan p s i → p (bt s k) = true) ∧ (scan p s i = s.size ∨ p (bt s (scan p s i)) = false) :=
  scanF_is p s _ i (Nat.le_refl _) hi
theorem scan_ge (p : Int → Bool) (s : ByteArray) {i : Nat} (hi : i ≤ s.size) : i ≤ scan p s i := (scan_is p s hi).1
theorem scan_le (p : Int → Bool) (s : ByteArray) {i : Nat} (hi : i ≤ s.size) : scan p s i ≤ s.size := (scan_is p s hi).2.1
/-- Space, tab, line feed. -/
def blB (c : Int) : Bool := decide (c = 32 ∨ c = 9 ∨ c = 10)
end Go.Proofs.YtipniinmajoolaaGreatDoor
