/- mergePlain1: plain texts that stand side by side as one. Conditions: one to ten texts of at most 10000 bytes. -/
import Derived.Test.YtecccieeikmfeaaGreatMrg5
import Derived.Test.YtecccieeikmfeaaGreatShelfJ
namespace Go.Proofs.YtecccieeikmfeaaGreat
open Go.RowKit
theorem join_flat (l : List (List UInt8)) : Lib.join l [] = l.flatten := by
  cases l with
  | nil => rfl
  | cons x r => rw [Lib.join_cons]; simp [Lib.joinTail]
def strL (xs : Nat → ByteArray) (n : Nat) : List ByteArray := (List.range n).map xs
theorem strL_len (xs : Nat → ByteArray) (n : Nat) : (strL xs n).length = n := by simp [strL]
theorem strL_succ (xs : Nat → ByteArray) (n : Nat) : strL xs (n + 1) = strL xs n ++ [xs n] := by simp [strL, List.range_succ]
theorem strL_get (xs : Nat → ByteArray) (n j : Nat) (x : ByteArray) (h : (strL xs n)[j]? = some x) : j < n ∧ x = xs j := by
  have hj : j < (strL xs n).length := (List.getElem?_eq_some_iff.1 h).1
  rw [strL_len] at hj
  refine ⟨hj, ?_⟩
  simp [strL, hj] at h
  exact h.symm
theorem catY_flat (xs : Nat → ByteArray) : ∀ n, (catY xs n).data.toList = ((strL xs n).map (·.data.toList)).flatten
  | 0 => rfl
  | n + 1 => by rw [catY, strL_succ, ByteArray.data_append, Array.toList_append, catY_flat xs n]; simp
theorem catY_join (xs : Nat → ByteArray) (n : Nat) : (⟨(Lib.join ((strL xs n).map (·.data.toList)) (⟨#[]⟩ : ByteArray).data.toList).toArray⟩ : ByteArray) = catY xs n := by
  rw [show (⟨#[]⟩ : ByteArray).data.toList = [] from rfl, join_flat, ← catY_flat]
theorem info_str : (Tryz.prog.info? 9).map (fun i => (i.zero, i.size, i.bytes)) = some (some (.string ⟨#[]⟩), 1, 16) := by kernel_rfl
def strV (xs : Nat → ByteArray) (n : Nat) : List Value := (strL xs n).map Value.string
theorem strV_succ (xs : Nat → ByteArray) (n : Nat) : strV xs (n + 1) = strV xs n ++ [.string (xs n)] := by simp [strV, strL_succ]
theorem strV_len (xs : Nat → ByteArray) (n : Nat) : (strV xs n).length = n := by simp [strV, strL_len]
set_option maxHeartbeats 2000000 in
set_option maxRecDepth 100000 in
theorem merge1_many (r off n cap : Nat) (gs : Nat → Nat) (xs : Nat → ByteArray) (w : World) (hn2 : 2 ≤ n) (hn : n ≤ 10) (hnc : n ≤ cap) (hr : ∀ k, k < n → w.cell? ⟨r, off + k, none⟩ = some (.iface 50 (ptr (gs k)))) (hlt : r < w.heap.size)
    (hg : ∀ k, k < n → ObjAt w (gs k) #[.string (xs k)] 53) (hx : ∀ k, k < n → (xs k).size ≤ 10000) :
    Calls Tryz.prog 19 #[.slice (some ⟨r, off, none⟩) n cap] w fun e w' => ∃ g, e = .returned (ptr g) ∧ ObjAt w' g #[.string (catY xs n)] 53 ∧ Below w.heap.size w w' := by
  obtain ⟨i0, hi0, hz0, hz1, hz2⟩ := info_parts info_str
  have HR := hide hr
  have HG := hide hg
  have HX := hide hx
  clear hr hg hx
  have hne : ((n : Int) == 1) = false := by simp; omega
  go_enter Tryz.func19, Tryz.ntmps19
  go_wp2
  go_loopw [3, 15] (fun ov kv wr => ∃ m : Nat, m ≤ n ∧ kv = .int .i64 m ∧ wr.ownsRow w.heap.size 9 1 ov m (strV xs m) ∧ Below w.heap.size w wr) (fun _ kv _ => n - (intOf kv).toNat)
  case atStart => exact ⟨0, by omega, rfl, World.ownsRow_nil _ _ _ _, Below.refl _ _⟩
  case round =>
    obtain ⟨m, hm, rfl, hown, hBe⟩ := hrel
    by_cases hl : m < n
    · have hlI : (m : Int) < (n : Int) := by omega
      have hc1 : wr.cell? ⟨r, off + m, none⟩ = some (.iface 50 (ptr (gs m))) := by rw [hBe.cell (p := ⟨r, off + m, none⟩) hlt]; exact HR.out m hl
      have ho := (HG.out m hl).below hBe (HG.out m hl).lt
      have hc2 : wr.cell? ⟨gs m, 0, none⟩ = some (.string (xs m)) := (ho.cell 0).trans rfl
      have hsz := hBe.size
      clear ho
      go_wp2_with (first | (go_at_call 18; refine (toPlain_plain _ _).mono ?_; rintro e w' ⟨rfl, rfl⟩) | (at_builtin; refine wpList_append_lies _ rfl (.tmp 19) (.tmp 25) 109 rfl w.heap.size 9 i0 (.string ⟨#[]⟩) 1 16 Tryz.underlying109 hi0 hz0 hz1 hz2 rfl (by decide) _ m (strV xs m) rfl (hown.alloc _) ⟨wr.heap.size, 0, none⟩ 1 1 [.string (xs m)] rfl rfl (cellOne _ _ _) (by simp [Value.oneCell']) (by omega) (by unfold maxLen; omega) (by omega) (by rw [World.size_alloc']; omega) _ rfl ?_; intro g2 cap2 w2 hown2 hg2 hat2 hlt2))
      have hb2 : Below w.heap.size w w2 := (hBe.alloc hsz _).grown hg2 (by rw [World.size_alloc']; omega) (fun k hk => (hown.lt k hk).1)
      rw [← strV_succ] at hown2
      clear hat2
      go_roundw
      case rel => exact ⟨m + 1, by omega, by go_num, hown2, hb2⟩
      case measure => simp [intOf]; omega
    · obtain rfl : m = n := by omega
      have hlI : ¬ ((m : Int) < (m : Int)) := by omega
      obtain ⟨g2, cap2, rfl, hbg, hg2⟩ := hown.form (by omega)
      have hcm : m ≤ cap2 := by
        rcases hown.2 with ⟨h0, _⟩ | ⟨g, c, cur, hv, _, _, hnc2, _⟩
        · cases h0
        · injection hv with _ _ e3; omega
      have J := hide (Tryz.strings_Join g2 0 cap2 (strL xs m) ⟨#[]⟩ wr (fun j x hj => by
        obtain ⟨hj1, rfl⟩ := strL_get xs m j x hj
        have := hown.cells (g := g2) rfl j (.string (xs j)) (by simp [strV, strL, hj1])
        rw [Nat.zero_add]
        have e : (⟨g2, 0, none⟩ : Addr).add j = ⟨g2, j, none⟩ := by rw [Addr.add_lit, Nat.zero_add]
        rw [← e]; exact this) hg2 (by rw [strL_len]; omega) (by rw [strL_len]; exact hcm) (by
        have h1 := cat_le (ys := xs) (m := 10000) m (fun k hk => HX.out k hk)
        have h2 := congrArg ByteArray.size (catY_join xs m)
        have h3 : (⟨(Lib.join ((strL xs m).map (·.data.toList)) (⟨#[]⟩ : ByteArray).data.toList).toArray⟩ : ByteArray).size = (Lib.join ((strL xs m).map (·.data.toList)) (⟨#[]⟩ : ByteArray).data.toList).length := by simp [ByteArray.size]
        omega))
      rw [strL_len, catY_join] at J
      go_wp2_with (go_at_call 21; refine J.out.mono ?_; rintro e w2 ⟨rfl, hb2⟩)
      go_ret
      have hs2 := hb2.size
      have hs1 := hBe.size
      exact ⟨w2.heap.size, rfl, heap_alloc_new w2 _, ((hBe.trans (hb2.mono hs1)).alloc (by omega) _)⟩
theorem merge1_any (r off n cap : Nat) (gs : Nat → Nat) (xs : Nat → ByteArray) (w : World) (hn1 : 1 ≤ n) (hn : n ≤ 10) (hnc : n ≤ cap) (hr : ∀ k, k < n → w.cell? ⟨r, off + k, none⟩ = some (.iface 50 (ptr (gs k)))) (hlt : r < w.heap.size)
    (hg : ∀ k, k < n → ObjAt w (gs k) #[.string (xs k)] 53) (hx : ∀ k, k < n → (xs k).size ≤ 10000) :
    Calls Tryz.prog 19 #[.slice (some ⟨r, off, none⟩) n cap] w fun e w' => ∃ g, e = .returned (ptr g) ∧ ObjAt w' g #[.string (catY xs n)] 53 ∧ Below w.heap.size w w' := by
  by_cases h1 : n = 1
  · subst h1
    have ho := hg 0 (by omega)
    have hc : w.cell? ⟨r, off, none⟩ = some (.iface 50 (ptr (gs 0))) := hr 0 (by omega)
    have he : catY xs 1 = xs 0 := by rw [catY, catY, ByteArray.empty_append]
    rw [he]
    have HO := hide ho
    clear hr hg hx ho he
    go_enter Tryz.func19, Tryz.ntmps19
    go_wp2_with (go_at_call 18; refine (toPlain_plain _ _).mono ?_; rintro e w' ⟨rfl, rfl⟩)
    go_ret
    exact ⟨gs 0, rfl, HO.out, Below.refl _ _⟩
  · exact merge1_many r off n cap gs xs w (by omega) hn hnc hr hlt hg hx
end Go.Proofs.YtecccieeikmfeaaGreat
