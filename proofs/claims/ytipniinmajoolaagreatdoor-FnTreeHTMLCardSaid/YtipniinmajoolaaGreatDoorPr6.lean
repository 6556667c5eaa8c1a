/- What the package's links print as HTML: destinations of small letters and strokes, which no escape touches. The list of the escapes is printed by gen_pr6.py. Conditions: sizes, as each states them. -/
import Derived.Test.YtipniinmajoolaaGreatDoorPr3
import Derived.Great.BuildSlice
namespace Go.Proofs.YtipniinmajoolaaGreatDoor
open Go.RowKit
section
variable {P : Program}
/-- A slice literal of texts, every place written. -/
theorem wpList_buildStrs {ops : Array Oper} {rest : List Oper} {o : Oper} {a : Act} {w : World} {Q : Exit → Act → World → Prop} (hg : o.guard = none) (t e : TypeId) (len : Nat) (parts : Array (Nat × Operand)) (ho : o.op = .buildSlice t len parts)
    (ss : List ByteArray) (hu : P.underlying t = some (.slice e)) (hsz : (P.info? e).map (·.size) = some 1) (hz : ((P.info? e).bind (·.zero)).isSome = true)
    (hlen : len = ss.length) (hpos : 0 < len) (hsmall : len ≤ 2 ^ 24)
    (hparts : parts.toList = (ss.zipIdx 0).map fun x => (x.2, Operand.const (Value.string x.1)))
    (h : wpList P ops Q rest (a.put o.dst (.slice (some ⟨w.heap.size, 0, none⟩) len len)) (w.alloc (.cells (ss.map Value.string).toArray e))) : wpList P ops Q (o :: rest) a w := by
  cases hie : P.info? e with
  | none => simp [hie] at hsz
  | some ie =>
    simp only [hie, Option.map_some, Option.some.injEq, Option.bind_some] at hsz hz
    obtain ⟨z, hzz⟩ := Option.isSome_iff_exists.1 hz
    refine wpList_buildSlice hg t e len parts ho _ ie z hu hie hzz (by rw [hsz]; omega) (by rw [hsz]; omega) ?_ h
    have hp : (parts.map fun (i, x) => (i, a.eval x)).toList = ((ss.map Value.string).zipIdx 0).map fun x => (x.2, x.1) := by
      rw [Array.toList_map, hparts, List.zipIdx_map, List.map_map, List.map_map]
      rfl
    rw [hp, hsz]
    exact Great.fill_flat _ _ (fun v hv => by obtain ⟨n, _, rfl⟩ := List.mem_map.1 hv; rfl) (by simp [hlen])
end
def linkSs : List ByteArray := [⟨#[34]⟩, ⟨#[37, 50, 50]⟩, ⟨#[38]⟩, ⟨#[38, 97, 109, 112, 59]⟩, ⟨#[60]⟩, ⟨#[37, 51, 67]⟩, ⟨#[62]⟩, ⟨#[37, 51, 69]⟩, ⟨#[92]⟩, ⟨#[37, 53, 67]⟩, ⟨#[32]⟩, ⟨#[37, 50, 48]⟩, ⟨#[96]⟩, ⟨#[37, 54, 48]⟩, ⟨#[91]⟩, ⟨#[37, 53, 66]⟩, ⟨#[93]⟩, ⟨#[37, 53, 68]⟩, ⟨#[94]⟩, ⟨#[37, 53, 69]⟩, ⟨#[123]⟩, ⟨#[37, 55, 66]⟩, ⟨#[125]⟩, ⟨#[37, 55, 68]⟩, ⟨#[0]⟩, ⟨#[37, 48, 48]⟩, ⟨#[1]⟩, ⟨#[37, 48, 49]⟩, ⟨#[2]⟩, ⟨#[37, 48, 50]⟩, ⟨#[3]⟩, ⟨#[37, 48, 51]⟩, ⟨#[4]⟩, ⟨#[37, 48, 52]⟩, ⟨#[5]⟩, ⟨#[37, 48, 53]⟩, ⟨#[6]⟩, ⟨#[37, 48, 54]⟩, ⟨#[7]⟩, ⟨#[37, 48, 55]⟩, ⟨#[8]⟩, ⟨#[37, 48, 56]⟩, ⟨#[11]⟩, ⟨#[37, 48, 66]⟩, ⟨#[12]⟩, ⟨#[37, 48, 67]⟩, ⟨#[14]⟩, ⟨#[37, 48, 69]⟩, ⟨#[15]⟩, ⟨#[37, 48, 70]⟩, ⟨#[16]⟩, ⟨#[37, 49, 48]⟩, ⟨#[17]⟩, ⟨#[37, 49, 49]⟩, ⟨#[18]⟩, ⟨#[37, 49, 50]⟩, ⟨#[19]⟩, ⟨#[37, 49, 51]⟩, ⟨#[20]⟩, ⟨#[37, 49, 52]⟩, ⟨#[21]⟩, ⟨#[37, 49, 53]⟩, ⟨#[22]⟩, ⟨#[37, 49, 54]⟩, ⟨#[23]⟩, ⟨#[37, 49, 55]⟩, ⟨#[24]⟩, ⟨#[37, 49, 56]⟩, ⟨#[25]⟩, ⟨#[37, 49, 57]⟩, ⟨#[26]⟩, ⟨#[37, 49, 65]⟩, ⟨#[27]⟩, ⟨#[37, 49, 66]⟩, ⟨#[28]⟩, ⟨#[37, 49, 67]⟩, ⟨#[29]⟩, ⟨#[37, 49, 68]⟩, ⟨#[30]⟩, ⟨#[37, 49, 69]⟩, ⟨#[31]⟩, ⟨#[37, 49, 70]⟩, ⟨#[127]⟩, ⟨#[37, 55, 70]⟩, ⟨#[128]⟩, ⟨#[37, 56, 48]⟩, ⟨#[129]⟩, ⟨#[37, 56, 49]⟩, ⟨#[130]⟩, ⟨#[37, 56, 50]⟩, ⟨#[131]⟩, ⟨#[37, 56, 51]⟩, ⟨#[132]⟩, ⟨#[37, 56, 52]⟩, ⟨#[133]⟩, ⟨#[37, 56, 53]⟩, ⟨#[134]⟩, ⟨#[37, 56, 54]⟩, ⟨#[135]⟩, ⟨#[37, 56, 55]⟩, ⟨#[136]⟩, ⟨#[37, 56, 56]⟩, ⟨#[137]⟩, ⟨#[37, 56, 57]⟩, ⟨#[138]⟩, ⟨#[37, 56, 65]⟩, ⟨#[139]⟩, ⟨#[37, 56, 66]⟩, ⟨#[140]⟩, ⟨#[37, 56, 67]⟩, ⟨#[141]⟩, ⟨#[37, 56, 68]⟩, ⟨#[142]⟩, ⟨#[37, 56, 69]⟩, ⟨#[143]⟩, ⟨#[37, 56, 70]⟩, ⟨#[144]⟩, ⟨#[37, 57, 48]⟩, ⟨#[145]⟩, ⟨#[37, 57, 49]⟩, ⟨#[146]⟩, ⟨#[37, 57, 50]⟩, ⟨#[147]⟩, ⟨#[37, 57, 51]⟩, ⟨#[148]⟩, ⟨#[37, 57, 52]⟩, ⟨#[149]⟩, ⟨#[37, 57, 53]⟩, ⟨#[150]⟩, ⟨#[37, 57, 54]⟩, ⟨#[151]⟩, ⟨#[37, 57, 55]⟩, ⟨#[152]⟩, ⟨#[37, 57, 56]⟩, ⟨#[153]⟩, ⟨#[37, 57, 57]⟩, ⟨#[154]⟩, ⟨#[37, 57, 65]⟩, ⟨#[155]⟩, ⟨#[37, 57, 66]⟩, ⟨#[156]⟩, ⟨#[37, 57, 67]⟩, ⟨#[157]⟩, ⟨#[37, 57, 68]⟩, ⟨#[158]⟩, ⟨#[37, 57, 69]⟩, ⟨#[159]⟩, ⟨#[37, 57, 70]⟩, ⟨#[160]⟩, ⟨#[37, 65, 48]⟩, ⟨#[161]⟩, ⟨#[37, 65, 49]⟩, ⟨#[162]⟩, ⟨#[37, 65, 50]⟩, ⟨#[163]⟩, ⟨#[37, 65, 51]⟩, ⟨#[164]⟩, ⟨#[37, 65, 52]⟩, ⟨#[165]⟩, ⟨#[37, 65, 53]⟩, ⟨#[166]⟩, ⟨#[37, 65, 54]⟩, ⟨#[167]⟩, ⟨#[37, 65, 55]⟩, ⟨#[168]⟩, ⟨#[37, 65, 56]⟩, ⟨#[169]⟩, ⟨#[37, 65, 57]⟩, ⟨#[170]⟩, ⟨#[37, 65, 65]⟩, ⟨#[171]⟩, ⟨#[37, 65, 66]⟩, ⟨#[172]⟩, ⟨#[37, 65, 67]⟩, ⟨#[173]⟩, ⟨#[37, 65, 68]⟩, ⟨#[174]⟩, ⟨#[37, 65, 69]⟩, ⟨#[175]⟩, ⟨#[37, 65, 70]⟩, ⟨#[176]⟩, ⟨#[37, 66, 48]⟩, ⟨#[177]⟩, ⟨#[37, 66, 49]⟩, ⟨#[178]⟩, ⟨#[37, 66, 50]⟩, ⟨#[179]⟩, ⟨#[37, 66, 51]⟩, ⟨#[180]⟩, ⟨#[37, 66, 52]⟩, ⟨#[181]⟩, ⟨#[37, 66, 53]⟩, ⟨#[182]⟩, ⟨#[37, 66, 54]⟩, ⟨#[183]⟩, ⟨#[37, 66, 55]⟩, ⟨#[184]⟩, ⟨#[37, 66, 56]⟩, ⟨#[185]⟩, ⟨#[37, 66, 57]⟩, ⟨#[186]⟩, ⟨#[37, 66, 65]⟩, ⟨#[187]⟩, ⟨#[37, 66, 66]⟩, ⟨#[188]⟩, ⟨#[37, 66, 67]⟩, ⟨#[189]⟩, ⟨#[37, 66, 68]⟩, ⟨#[190]⟩, ⟨#[37, 66, 69]⟩, ⟨#[191]⟩, ⟨#[37, 66, 70]⟩, ⟨#[192]⟩, ⟨#[37, 67, 48]⟩, ⟨#[193]⟩, ⟨#[37, 67, 49]⟩, ⟨#[194]⟩, ⟨#[37, 67, 50]⟩, ⟨#[195]⟩, ⟨#[37, 67, 51]⟩, ⟨#[196]⟩, ⟨#[37, 67, 52]⟩, ⟨#[197]⟩, ⟨#[37, 67, 53]⟩, ⟨#[198]⟩, ⟨#[37, 67, 54]⟩, ⟨#[199]⟩, ⟨#[37, 67, 55]⟩, ⟨#[200]⟩, ⟨#[37, 67, 56]⟩, ⟨#[201]⟩, ⟨#[37, 67, 57]⟩, ⟨#[202]⟩, ⟨#[37, 67, 65]⟩, ⟨#[203]⟩, ⟨#[37, 67, 66]⟩, ⟨#[204]⟩, ⟨#[37, 67, 67]⟩, ⟨#[205]⟩, ⟨#[37, 67, 68]⟩, ⟨#[206]⟩, ⟨#[37, 67, 69]⟩, ⟨#[207]⟩, ⟨#[37, 67, 70]⟩, ⟨#[208]⟩, ⟨#[37, 68, 48]⟩, ⟨#[209]⟩, ⟨#[37, 68, 49]⟩, ⟨#[210]⟩, ⟨#[37, 68, 50]⟩, ⟨#[211]⟩, ⟨#[37, 68, 51]⟩, ⟨#[212]⟩, ⟨#[37, 68, 52]⟩, ⟨#[213]⟩, ⟨#[37, 68, 53]⟩, ⟨#[214]⟩, ⟨#[37, 68, 54]⟩, ⟨#[215]⟩, ⟨#[37, 68, 55]⟩, ⟨#[216]⟩, ⟨#[37, 68, 56]⟩, ⟨#[217]⟩, ⟨#[37, 68, 57]⟩, ⟨#[218]⟩, ⟨#[37, 68, 65]⟩, ⟨#[219]⟩, ⟨#[37, 68, 66]⟩, ⟨#[220]⟩, ⟨#[37, 68, 67]⟩, ⟨#[221]⟩, ⟨#[37, 68, 68]⟩, ⟨#[222]⟩, ⟨#[37, 68, 69]⟩, ⟨#[223]⟩, ⟨#[37, 68, 70]⟩, ⟨#[224]⟩, ⟨#[37, 69, 48]⟩, ⟨#[225]⟩, ⟨#[37, 69, 49]⟩, ⟨#[226]⟩, ⟨#[37, 69, 50]⟩, ⟨#[227]⟩, ⟨#[37, 69, 51]⟩, ⟨#[228]⟩, ⟨#[37, 69, 52]⟩, ⟨#[229]⟩, ⟨#[37, 69, 53]⟩, ⟨#[230]⟩, ⟨#[37, 69, 54]⟩, ⟨#[231]⟩, ⟨#[37, 69, 55]⟩, ⟨#[232]⟩, ⟨#[37, 69, 56]⟩, ⟨#[233]⟩, ⟨#[37, 69, 57]⟩, ⟨#[234]⟩, ⟨#[37, 69, 65]⟩, ⟨#[235]⟩, ⟨#[37, 69, 66]⟩, ⟨#[236]⟩, ⟨#[37, 69, 67]⟩, ⟨#[237]⟩, ⟨#[37, 69, 68]⟩, ⟨#[238]⟩, ⟨#[37, 69, 69]⟩, ⟨#[239]⟩, ⟨#[37, 69, 70]⟩, ⟨#[240]⟩, ⟨#[37, 70, 48]⟩, ⟨#[241]⟩, ⟨#[37, 70, 49]⟩, ⟨#[242]⟩, ⟨#[37, 70, 50]⟩, ⟨#[243]⟩, ⟨#[37, 70, 51]⟩, ⟨#[244]⟩, ⟨#[37, 70, 52]⟩, ⟨#[245]⟩, ⟨#[37, 70, 53]⟩, ⟨#[246]⟩, ⟨#[37, 70, 54]⟩, ⟨#[247]⟩, ⟨#[37, 70, 55]⟩, ⟨#[248]⟩, ⟨#[37, 70, 56]⟩, ⟨#[249]⟩, ⟨#[37, 70, 57]⟩, ⟨#[250]⟩, ⟨#[37, 70, 65]⟩, ⟨#[251]⟩, ⟨#[37, 70, 66]⟩, ⟨#[252]⟩, ⟨#[37, 70, 67]⟩, ⟨#[253]⟩, ⟨#[37, 70, 68]⟩, ⟨#[254]⟩, ⟨#[37, 70, 69]⟩, ⟨#[255]⟩, ⟨#[37, 70, 70]⟩]
/-- Pairs none of whose keys begins with a byte of a destination. -/
def keysOk : List ByteArray → Bool
  | K :: _ :: r => decide (0 < K.size) && !urlB (bt K 0) && keysOk r
  | [] => true
  | _ => false
theorem keysOk_get : ∀ {l : List ByteArray} {m : Nat}, keysOk l = true → 2 * m < l.length → ∃ K, l[2 * m]? = some K ∧ 0 < K.size ∧ urlB (bt K 0) = false
  | K :: V :: r, 0, h, _ => by
    simp [keysOk] at h
    exact ⟨K, rfl, by simpa using h.1.1, h.1.2⟩
  | K :: V :: r, m + 1, h, hm => by
    simp [keysOk] at h
    obtain ⟨K', h1, h2⟩ := keysOk_get (l := r) (m := m) h.2 (by simp at hm; omega)
    exact ⟨K', by rw [show 2 * (m + 1) = 2 * m + 1 + 1 by omega]; simpa using h1, h2⟩
  | [], m, _, hm => by simp at hm
  | [_], m, h, _ => by simp [keysOk] at h
def linkV : Array Value := (linkSs.map Value.string).toArray
theorem linkSs_ok : keysOk linkSs = true := by decide +kernel
theorem linkSs_len : linkSs.length = 340 := by decide +kernel
section
attribute [local irreducible] wpList Code.wp linkSs
set_option maxHeartbeats 1000000 in
set_option maxRecDepth 100000 in
theorem linkEsc_any (w : World) : Calls Tryz.prog 135 #[] w fun e w' => e = .returned (.slice (some ⟨w.heap.size, 0, none⟩) 340 340) ∧ w.alloc (.cells linkV 9) = w' := by
  refine calls_of_wp Tryz.func135 rfl ?_
  apply wp_seq_k; intro K0 hK0
  apply wp_region_lit
  refine wpList_plain rfl fun K hK => ?_
  refine hK _ _ ?_
  apply wpList_nil
  refine hK0 _ _ ?_
  clear hK0 K0 hK K
  apply wp_seq_k; intro K1 hK1
  apply wp_region_lit
  refine wpList_buildStrs rfl 220 9 340 _ rfl linkSs (by as_aux_lemma => kernel_rfl) (by as_aux_lemma => kernel_rfl) (by as_aux_lemma => kernel_rfl) linkSs_len.symm (by decide) (by decide) (by as_aux_lemma => kernel_rfl) ?_
  refine wpList_plain rfl fun K hK => ?_
  refine hK _ _ ?_
  apply wpList_nil
  refine hK1 _ _ ?_
  clear hK1 K1 hK K
  apply wp_ret
  exact bodyPost_ret (v := .slice (some ⟨w.heap.size, 0, none⟩) 340 340) (by kernel_rfl) rfl ⟨rfl, rfl⟩
end
def PairsL (g : Nat) (w : World) : Prop := w.heap[g]? = some (.cells linkV 9 (0, 0))
theorem PairsL.kept {g b : Nat} {w w' : World} (h : PairsL g w) (hb : g ≠ b) (hk : Lib.OthersKept 5 (some b) w w') : PairsL g w' :=
  hk g _ h (fun e => hb (Option.some.inj e)) (fun c fz e => by injection e with _ e2 _; exact absurd e2 (by decide))
theorem PairsL.drewN {g : Nat} {w : World} (h : PairsL g w) (n : Nat) : PairsL g (w.drewN n) := h
theorem pairsL_key {g : Nat} {w : World} (h : PairsL g w) : ∀ m, m < 170 → ∃ K : ByteArray, w.cell? ⟨g, 2 * m, none⟩ = some (.string K) ∧ 0 < K.size ∧ urlB (bt K 0) = false := by
  intro m hm
  obtain ⟨K, h1, h2, h3⟩ := keysOk_get (m := m) linkSs_ok (by rw [linkSs_len]; omega)
  refine ⟨K, ?_, h2, h3⟩
  unfold PairsL linkV at h
  simp [World.cell?, h, h1]
theorem url_ne {s K : ByteArray} {k : Nat} (hs : urlB (bt s k) = true) (hK : urlB (bt K 0) = false) : (bt s k == bt K 0) = false := by
  rw [beq_eq_false_iff_ne]
  intro e
  rw [e, hK] at hs
  cases hs
theorem ext_stepL (t s : ByteArray) {k : Nat} (hk : k < s.size) : t ++ s.extract 0 k ++ s.extract k (k + 1) = t ++ s.extract 0 (k + 1) := by
  rw [ByteArray.append_assoc]
  congr 1
  refine ext_bt (by simp only [ByteArray.size_append, ByteArray.size_extract]; omega) fun j hj => ?_
  simp only [ByteArray.size_append, ByteArray.size_extract] at hj
  by_cases e : j < k
  · rw [bt_left _ _ (by rw [ByteArray.size_extract]; omega), bt_extract _ _ _ _ (by omega) (by omega), bt_extract _ _ _ _ (by omega) (by omega)]
  · obtain rfl : j = k := by omega
    have h1 : bt (s.extract 0 j ++ s.extract j (j + 1)) j = bt (s.extract j (j + 1)) 0 := by
      have := bt_right (s.extract 0 j) (s.extract j (j + 1)) 0
      rwa [ByteArray.size_extract, show min j s.size - 0 + 0 = j by omega] at this
    rw [h1, bt_extract _ _ _ _ (by omega) (by omega), bt_extract _ _ _ _ (by omega) (by omega)]
    congr 1; omega
theorem ext_all (s : ByteArray) : s.extract 0 s.size = s := by
  refine ext_bt (by rw [ByteArray.size_extract]; omega) fun j hj => ?_
  rw [ByteArray.size_extract] at hj
  rw [bt_extract _ _ _ _ (by omega) (by omega)]
  congr 1; omega
set_option maxHeartbeats 2000000 in
set_option maxRecDepth 100000 in
theorem zzWriteL_any (B b g : Nat) (t s : ByteArray) (w : World) (h : HoldsU B b t w) (hB : B ≤ w.heap.size) (hg : g ≠ b) (hP : PairsL g w) (hs : s.size ≤ 1000000) (ht : t.size ≤ 100000000000000) (hu : Url s) :
    Calls Tryz.prog 116 #[.slice (some ⟨g, 0, none⟩) 340 340, .pointer (some ⟨b, 0, none⟩), .string s] w fun e w' => e = .returned (.tuple #[]) ∧ Wrote B b t s w w' := by
  have hb := get_bt s
  have HU := hide hu
  clear hu
  go_enter Tryz.func116, Tryz.ntmps116
  go_wp2
  go_step3
  go_wp2
  go_step3
  go_wp2
  go_loopg [6] s.size (fun n kv wr => ∃ k : Nat, k + n = s.size ∧ kv = .int .i64 k ∧ HoldsU B b (t ++ s.extract 0 k) wr ∧ PairsL g wr ∧ Below B w wr ∧ Lib.OthersKept 5 (some b) w wr)
  case atStart => exact ⟨0, by omega, rfl, by rw [show s.extract 0 0 = ByteArray.empty from (ext_bt (by simp) (fun j hj => absurd hj (by simp))), ByteArray.append_empty]; exact h, hP, Below.refl _ _, Lib.OthersKept.refl _ _ _⟩
  case round =>
    clear h hP
    obtain ⟨k, hkn, rfl, hH, hP, hBe, hO⟩ := hrel
    cases gk with
    | zero =>
      have hkI : ¬ ((k : Int) < (s.size : Int)) := by omega
      have hk : Hid (k = s.size) := by unfold Hid; omega
      go_wp2
      try rw [Exit.noGoto_ret]
      go_end0
      exact ⟨rfl, by have e := hk.out; subst e; rw [ext_all] at hH; exact hH, hBe, hO⟩
    | succ n0 =>
      have hlt : k < s.size := by omega
      have hkI : (k : Int) < (s.size : Int) := by omega
      have hez : (t ++ s.extract 0 k).size ≤ 100000000000000 + 1000000 := by rw [ByteArray.size_append, ByteArray.size_extract]; omega
      go_wp2
      go_loopg [7] 170 (fun n jv wy => ∃ m : Nat, m + n = 170 ∧ jv = .int .i64 (2 * m : Nat) ∧ HoldsU B b (t ++ s.extract 0 k) wy ∧ PairsL g wy ∧ Below B w wy ∧ Lib.OthersKept 5 (some b) w wy)
      case atStart => exact ⟨0, by omega, rfl, hH, hP, hBe, hO⟩
      case round =>
        clear hH hP hBe hO
        obtain ⟨m, hmn, rfl, hH, hP, hBe, hO⟩ := hrel
        cases gk with
        | zero =>
          have hm4 : Hid (m = 170) := by unfold Hid; omega
          have hjI : ¬ (((2 * m : Nat) : Int) < 340) := by omega
          have hsz : B ≤ wr.heap.size := by have := hBe.size; omega
          go_wp2_with (go_at_call 114; refine (writeU_byte B b _ s k _ hH hlt (by omega) hsz).mono ?_; rintro e w1 ⟨rfl, hH1, hb1, ho1⟩)
          go_roundg n0
          case measure => omega
          case rel => exact ⟨k + 1, by omega, by go_num, by rw [← ext_stepL t s hlt]; exact hH1, hP.kept hg ho1, hBe.trans hb1, hO.trans ho1⟩
        | succ n1 =>
          have hm : m < 170 := by omega
          obtain ⟨j, hj⟩ : ∃ j, j = 2 * m := ⟨_, rfl⟩
          rw [← hj]
          obtain ⟨K, c1, hKz, hKu⟩ := pairsL_key hP m hm
          rw [← hj] at c1
          have hKs : (0 : Int) < (K.size : Int) := by omega
          have hbK := get_bt K
          have hj8 : (j : Int) < 340 := by omega
          have hc := url_ne (HU.out k hlt) hKu
          have HJ := hide hj
          clear hj hKu
          go_wp2
          go_quiet (fail)
          go_wp2
          go_roundg n1
          case measure => omega
          case rel => exact ⟨m + 1, by omega, by rw [show ((2 * (m + 1) : Nat) : Int) = (j : Int) + 2 by have := HJ.out; omega], hH.drewN _, hP.drewN _, below_drewN hBe _, hO⟩
theorem pairsL_new (w : World) : PairsL w.heap.size (w.alloc (.cells linkV 9)) := heap_alloc_new w _
theorem PairsL.lt {g : Nat} {w : World} (h : PairsL g w) : g < w.heap.size := (Array.getElem?_eq_some_iff.1 h).1
set_option maxHeartbeats 1000000 in
theorem replaceL_any (g : Nat) (s : ByteArray) (w : World) (hP : PairsL g w) (hs : s.size ≤ 1000000) (hu : Url s) :
    Calls Tryz.prog 113 #[.slice (some ⟨g, 0, none⟩) 340 340, .string s] w fun e w' => e = .returned (.string s) ∧ Below w.heap.size w w' := by
  have hg := hP.lt
  have W := hide (zzWriteL_any w.heap.size w.heap.size g ByteArray.empty s (w.alloc (.cells #[.slice none 0 0, .int .i64 0, .int .i8 0] 55)) (holdsU_fresh w) (by simp) (by omega) ((Lib.alloc_old w _ g hg).trans hP) hs (by simp) hu)
  clear hP hu
  go_enter Tryz.func113, Tryz.ntmps113
  go_wp2_with (first | (go_at_call 116; refine W.out.mono ?_; rintro e w1 ⟨rfl, hH1, hb1, ho1⟩; rw [ByteArray.empty_append] at hH1) | (go_at_call 16; refine (stringU _ _ _ _ hH1).mono ?_; rintro e w2 ⟨rfl, n2, rfl⟩))
  go_ret
  exact ⟨rfl, by exact below_drewN (((Below.refl _ _).alloc (Nat.le_refl _) _).trans hb1) n2⟩
attribute [local irreducible] linkSs linkV
set_option maxHeartbeats 2000000 in
set_option maxRecDepth 100000 in
theorem link_prints (w : World) (g : Nat) (d : ByteArray) (tc : Int) (ks : Value) (n : Nat) (vs : Nat → Value) (ys : Nat → ByteArray) (ho : ObjAt w g #[ks, .string d, .string ⟨#[]⟩, .int .u8 tc, .bool false] 115) (hr : RowIs 141 w ks n vs)
    (hk : ∀ k, k < n → PrI w (vs k) (ys k)) (hd : d.size ≤ 1000000) (hu : Url d) : PrB (fun _ => True) w g 134 (((⟨#[60, 97, 32, 104, 114, 101, 102, 61, 34]⟩ : ByteArray) ++ d ++ (⟨#[34]⟩ : ByteArray)) ++ (⟨#[62]⟩ : ByteArray) ++ catY ys n ++ (⟨#[60, 47, 97, 62]⟩ : ByteArray)) := by
  intro w' B b tx hb hO hH hBs hsz _
  obtain ⟨ao, cap, rfl, hn, hr⟩ := hr
  have HG := hide ho
  have HR := hide hr
  have HK := hide hk
  have HO := hide hO
  have HH := hide hH
  clear hr hk hO hH ho
  simp only [ByteArray.size_append] at hsz
  have z1 : (⟨#[60, 97, 32, 104, 114, 101, 102, 61, 34]⟩ : ByteArray).size = 9 := rfl
  have z2 : (⟨#[34]⟩ : ByteArray).size = 1 := rfl
  have z3 : (⟨#[62]⟩ : ByteArray).size = 1 := rfl
  have z4 : (⟨#[60, 47, 97, 62]⟩ : ByteArray).size = 4 := rfl
  have HS := hide hsz
  have hc0 := (((HG.out.later HO.out hb (by decide)).cell 1).trans rfl : w'.cell? ⟨g, 1, none⟩ = some (.string d))
  have hlt : g < w'.heap.size := (HG.out.later HO.out hb (by decide)).lt
  have R := hide (replaceL_any w'.heap.size d (w'.alloc (.cells linkV 9)).drew (pairsL_new w') hd hu)
  have hB0 : Hid (Below w'.heap.size w' (w'.alloc (.cells linkV 9)).drew) := hide (((Below.refl _ _).alloc (Nat.le_refl _) _).drew)
  have W := hide (fun (w1 : World) (hb1 : Below (w'.alloc (.cells linkV 9)).drew.heap.size (w'.alloc (.cells linkV 9)).drew w1) => wroteU B b tx ((⟨#[60, 97, 32, 104, 114, 101, 102, 61, 34]⟩ : ByteArray) ++ d ++ (⟨#[34]⟩ : ByteArray)) w1 (Lib.IsBuffer.old (w := (w'.alloc (.cells linkV 9)).drew) (HoldsU.alloc HH.out (.cells linkV 9)) hb1) (by simp only [ByteArray.size_append]; have := HS.out; omega) (by have := hb1.size; simp at this; omega))
  go_enter Tryz.func134, Tryz.ntmps134
  go_wp2
  go_region_with (first | (go_at_call 135; refine (linkEsc_any _).mono ?_; rintro e w' ⟨rfl, rfl⟩) | (go_at_call 113; refine R.out.mono ?_; rintro e w1 ⟨rfl, hb1⟩) | (go_at_call 88; refine (W.out _ hb1).mono ?_; rintro e w2 ⟨rfl, hw⟩; have HW1 : Hid (Wrote B b tx ((⟨#[60, 97, 32, 104, 114, 101, 102, 61, 34]⟩ : ByteArray) ++ d ++ (⟨#[34]⟩ : ByteArray)) w' w2) := hide ⟨hw.1, ((((Below.refl B w').alloc hBs _).drew).trans (hb1.mono (by simp; omega))).trans hw.2.1, (Lib.OthersKept.trans (((Lib.OthersKept.refl _ _ w').alloc _).drew) (others_old hb1)).trans hw.2.2⟩; have hc2 := (((HG.out.later (HO.out.trans HW1.out.2.2) hb (by decide)).cell 2).trans rfl : w2.cell? ⟨g, 2, none⟩ = some (.string ⟨#[]⟩)); have W2 := hide (wroteU B b (tx ++ ((⟨#[60, 97, 32, 104, 114, 101, 102, 61, 34]⟩ : ByteArray) ++ d ++ (⟨#[34]⟩ : ByteArray))) (⟨#[62]⟩ : ByteArray) w2 HW1.out.1 (by simp only [ByteArray.size_append]; have := HS.out; omega) (Nat.le_trans hBs HW1.out.2.1.size)); clear hw hb1))
  all_goals
    clear W R hc0
    go_wp2_with (go_at_call 88; (with_reducible refine W2.out.mono ?_); rintro e w3 ⟨rfl, hw⟩; have HP := hide (HW1.out.trans hw); have hc3 := (((HG.out.later (HO.out.trans HP.out.2.2) hb (by decide)).cell 0).trans rfl : w3.cell? ⟨g, 0, none⟩ = some (.slice ao n cap)); clear hw)
    have HO1 := hide (HO.out.trans HP.out.2.2)
    have HH1 := hide HP.out.1
    have hB1 : B ≤ w3.heap.size := Nat.le_trans hBs HP.out.2.1.size
    go_loopw [38] (fun kv wr => ∃ m : Nat, m ≤ n ∧ kv = .int .i64 m ∧ Hid (Wrote B b (tx ++ (((⟨#[60, 97, 32, 104, 114, 101, 102, 61, 34]⟩ : ByteArray) ++ d ++ (⟨#[34]⟩ : ByteArray)) ++ (⟨#[62]⟩ : ByteArray))) (catY ys m) w3 wr)) (fun kv _ => n - (intOf kv).toNat)
    case atStart => exact ⟨0, by omega, rfl, hide (wrote_refl HH1.out)⟩
    case round =>
      clear hc2 hc3 W2 HW1
      obtain ⟨m, hm, rfl, HW⟩ := hrel
      by_cases hlt2 : m < n
      · have hltI : (m : Int) < (n : Int) := by omega
        obtain ⟨r, rfl, hrow⟩ := HR.out (by omega)
        have hcell := (hrow.later (HO1.out.trans HW.out.2.2) hb (by decide)).cell hlt2
        obtain ⟨T, gk, f, hv, hD, hP⟩ := HK.out m hlt2
        rw [hv] at hcell
        have hroom := catY_room ys hlt2
        have CP := hide (hP wr B b (tx ++ (((⟨#[60, 97, 32, 104, 114, 101, 102, 61, 34]⟩ : ByteArray) ++ d ++ (⟨#[34]⟩ : ByteArray)) ++ (⟨#[62]⟩ : ByteArray)) ++ catY ys m) hb (HO1.out.trans HW.out.2.2) HW.out.1 (Nat.le_trans hB1 HW.out.2.1.size) (by simp only [ByteArray.size_append]; have := HS.out; omega) trivial)
        have HD := hide hD
        clear hv hD hP hrow hroom
        go_wp2_with ((with_reducible refine wpList_invoke ?_ (.tmp 42) (.tmp 43) "PrintHTML" 57 ?_ T gk f ?_ HD.out _ (ptr b) ?_ CP.out ?_); exact rfl; exact rfl; (simp [go_sem]); (simp [go_sem]); rintro w4 hW2; have HW2 := hide hW2; clear hW2)
        go_roundw
        case rel => exact ⟨m + 1, by omega, by go_num, hide (HW.out.trans HW2.out)⟩
        case measure => simp [intOf]; omega
      · obtain rfl : m = n := by omega
        have hltI : ¬ ((m : Int) < (m : Int)) := by omega
        clear hlt2
        have W3 := hide (wroteU B b (tx ++ (((⟨#[60, 97, 32, 104, 114, 101, 102, 61, 34]⟩ : ByteArray) ++ d ++ (⟨#[34]⟩ : ByteArray)) ++ (⟨#[62]⟩ : ByteArray)) ++ catY ys m) (⟨#[60, 47, 97, 62]⟩ : ByteArray) wr HW.out.1 (by simp only [ByteArray.size_append]; have := HS.out; omega) (Nat.le_trans hB1 HW.out.2.1.size))
        go_wp2_with (go_at_call 88; (with_reducible refine W3.out.mono ?_); rintro e w5 ⟨rfl, hw3⟩; have HW3 := hide hw3; clear hw3)
        go_end0
        exact ⟨rfl, (HP.out.trans HW.out).trans (by rw [← ByteArray.append_assoc]; exact HW3.out)⟩
end Go.Proofs.YtipniinmajoolaaGreatDoor
