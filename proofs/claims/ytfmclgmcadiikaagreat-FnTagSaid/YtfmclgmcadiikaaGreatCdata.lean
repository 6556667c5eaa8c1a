/- The walk of FnCDATA. Conditions: none. -/
import Derived.Test.YtfmclgmcadiikaaGreatProg
import Derived.Test.YtfmclgmcadiikaaGreatBase
import Derived.Test.YtfmclgmcadiikaaGreatMark
import Derived.Test.YtfmclgmcadiikaaGreatInline
import Derived.Test.YtfmclgmcadiikaaGreatPMark
import Derived.Test.YtfmclgmcadiikaaGreatRead
namespace Go.Proofs.YtfmclgmcadiikaaGreat
open Go.RowKit
abbrev cdP : ByteArray := ⟨#[60, 33, 91, 67, 68, 65, 84, 65, 91]⟩
abbrev cdS : ByteArray := ⟨#[93, 93, 62]⟩
/-- A piece that begins at a place and ends behind what is sought first. -/
theorem until_tail (s pre suf : ByteArray) (i : Nat) (hi : i ≤ s.size) (hs : 0 < suf.size) (hp : hitB s pre i = true) : untilN (s.extract i s.size) pre suf = (match fst_ s suf (i + pre.size) with | some k => k + suf.size - i | none => 0) := by
  unfold untilN
  rw [hit_tail s pre i 0 hi, Nat.add_zero, hp, fst_tail s suf i pre.size hi hs]
  rcases fst_is s suf (i + pre.size) with ⟨k, h1, h2, _⟩ | ⟨h1, _⟩
  · rw [h1]; simp; omega
  · rw [h1]; rfl
end Go.Proofs.YtfmclgmcadiikaaGreat
