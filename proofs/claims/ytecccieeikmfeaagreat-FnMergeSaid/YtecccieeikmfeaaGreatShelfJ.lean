/- The library's contracts for bytes.Buffer, laid at this program by the kit's lay-shelf.mjs and lay-plain.mjs, those that are used here. -/
import Derived.Shelf.Strings.OnBuilder
import Derived.Test.YtecccieeikmfeaaGreatProg
namespace Go.Proofs
open Go.Shelf
def Tryz.lays156_ren : Go.Shelf.Ren := ⟨fun | 156 => 21 | 165 => 22 | 166 => 23 | 169 => 24 | 240 => 25 | 241 => 26 | 276 => 27 | 277 => 28 | n => n, fun | 31 => 109 | 9 => 9 | 3 => 3 | 4 => 4 | 0 => 0 | 20 => 20 | 72 => 113 | 76 => 117 | 70 => 111 | 37 => 42 | 75 => 116 | 127 => 119 | 164 => 120 | 5 => 5 | 80 => 49 | n => n, fun | n => n⟩
theorem Tryz.lays156 : Go.Proofs.Lays.n156 Tryz.prog Tryz.lays156_ren := {
  mixed := by kernel_rfl
  f156 := Tryz.func21.trans (congrArg some (by kernel_rfl))
  f165 := Tryz.func22.trans (congrArg some (by kernel_rfl))
  f166 := Tryz.func23.trans (congrArg some (by kernel_rfl))
  f169 := Tryz.func24.trans (congrArg some (by kernel_rfl))
  f240 := Tryz.func25.trans (congrArg some (by kernel_rfl))
  f241 := Tryz.func26.trans (congrArg some (by kernel_rfl))
  f276 := Tryz.func27.trans (congrArg some (by kernel_rfl))
  f277 := Tryz.func28.trans (congrArg some (by kernel_rfl))
  t0 := Tryz.underlying0
  a0 := Tryz.isAgg0
  z0 := Tryz.sizeOf0
  v0 := Tryz.zeroValue0
  t3 := Tryz.underlying3
  a3 := Tryz.isAgg3
  z3 := Tryz.sizeOf3
  v3 := Tryz.zeroValue3
  t4 := Tryz.underlying4
  a4 := Tryz.isAgg4
  z4 := Tryz.sizeOf4
  v4 := Tryz.zeroValue4
  t9 := Tryz.underlying9
  a9 := Tryz.isAgg9
  z9 := Tryz.sizeOf9
  v9 := Tryz.zeroValue9
  t20 := Tryz.underlying20
  a20 := Tryz.isAgg20
  z20 := Tryz.sizeOf20
  v20 := Tryz.zeroValue20
  t31 := Tryz.underlying109
  a31 := Tryz.isAgg109
  z31 := Tryz.sizeOf109
  v31 := Tryz.zeroValue109
  t37 := Tryz.underlying42
  a37 := Tryz.isAgg42
  z37 := Tryz.sizeOf42
  v37 := Tryz.zeroValue42
  t70 := Tryz.underlying111
  a70 := Tryz.isAgg111
  z70 := Tryz.sizeOf111
  v70 := Tryz.zeroValue111
  t72 := Tryz.underlying113
  a72 := Tryz.isAgg113
  z72 := Tryz.sizeOf113
  v72 := Tryz.zeroValue113
  t75 := Tryz.underlying116
  a75 := Tryz.isAgg116
  z75 := Tryz.sizeOf116
  v75 := Tryz.zeroValue116
  t76 := Tryz.underlying117
  a76 := Tryz.isAgg117
  z76 := Tryz.sizeOf117
  v76 := Tryz.zeroValue117
  t127 := Tryz.underlying119
  a127 := Tryz.isAgg119
  z127 := Tryz.sizeOf119
  v127 := Tryz.zeroValue119
  t164 := Tryz.underlying120
  a164 := Tryz.isAgg120
  z164 := Tryz.sizeOf120
  v164 := Tryz.zeroValue120 }
theorem Tryz.Builder_Extra_156 : Builder.Extra Tryz.prog Tryz.lays156_ren := {
  sizeBuilder := by kernel_rfl
  liesBuilder := by kernel_rfl
  t5 := Tryz.underlying5
  a5 := Tryz.isAgg5
  z5 := Tryz.sizeOf5
  v5 := Tryz.zeroValue5
  infoByte := by kernel_rfl
  cellsByte := by kernel_rfl
  sizeByte := by kernel_rfl
  neB5 := by decide }
open Go.RowKit in
/-- strings.Join: "Join concatenates the elements of its first argument to create a single string. The separator string sep is placed between elements in the resulting string.": HOWEVER MANY ELEMENTS. Below the heap's end the world is as it was. (LAID: no walk: one application.) -/
theorem Tryz.strings_Join (bk o c : Nat) (xs : List ByteArray) (sep : ByteArray) (w : World) (hcells : ∀ (j : Nat) x, xs[j]? = some x → w.cell? ⟨bk, o + j, none⟩ = some (.string x)) (hbk : bk < w.heap.size) (hN : xs.length ≤ 140737488355328) (hcap : xs.length ≤ c) (hlen : (Lib.join (xs.map (·.data.toList)) sep.data.toList).length ≤ 140737488355328) :
    Calls Tryz.prog 21 #[.slice (some ⟨bk, o, none⟩) xs.length c, .string sep] w fun e w' => e = .returned (.string ⟨(Lib.join (xs.map (·.data.toList)) sep.data.toList).toArray⟩) ∧ Below w.heap.size w w' := Any.strings_Join Tryz.lays156 Tryz.Builder_Extra_156 bk o c xs sep w hcells hbk hN hcap hlen
end Go.Proofs
