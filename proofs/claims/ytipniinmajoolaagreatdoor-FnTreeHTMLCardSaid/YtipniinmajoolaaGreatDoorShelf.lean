/- The library's contracts, laid at this program by the kit's lay-shelf.mjs and lay-plain.mjs, those that are used here. -/
import Derived.Shelf.LaysM
import Derived.Shelf.Bytes.String
import Derived.Shelf.Bytes.BufferK
import Derived.Shelf.Bytes.Len
import Derived.Shelf.Bytes.Bytes
import Derived.Shelf.Strconv.Itoa3
import Derived.Shelf.Strings.Prefix
import Derived.Shelf.Small.Strs
import Derived.Shelf.Unicode.Decode
import Derived.Test.YtipniinmajoolaaGreatDoorProg
namespace Go.Proofs
open Go.Shelf
def Tryz.lays137_ren : Go.Shelf.Ren := ⟨fun | 137 => 54 | 217 => 61 | 266 => 64 | n => n, fun | 9 => 9 | 5 => 5 | 3 => 3 | n => n, fun | n => n⟩
theorem Tryz.lays137 : Go.Proofs.Lays.n137 Tryz.prog Tryz.lays137_ren := {
  mixed := by kernel_rfl
  f137 := Tryz.func54.trans (congrArg some (by kernel_rfl))
  f217 := Tryz.func61.trans (congrArg some (by kernel_rfl))
  f266 := Tryz.func64.trans (congrArg some (by kernel_rfl))
  t3 := Tryz.underlying3
  a3 := Tryz.isAgg3
  z3 := Tryz.sizeOf3
  v3 := Tryz.zeroValue3
  t5 := Tryz.underlying5
  a5 := Tryz.isAgg5
  z5 := Tryz.sizeOf5
  v5 := Tryz.zeroValue5
  t9 := Tryz.underlying9
  a9 := Tryz.isAgg9
  z9 := Tryz.sizeOf9
  v9 := Tryz.zeroValue9 }
open Go.RowKit in
/-- strings.IndexByte: "IndexByte returns the index of the first instance of c in s, or -1 if c is not present in s.": IT RETURNS 'Lib.indexByte s c'; the world is as it was. (LAID: no walk: one application.) -/
theorem Tryz.strings_IndexByte (s : ByteArray) (c : Int) (w : World) :
    Calls Tryz.prog 54 #[.string s, .int .u8 c] w fun e w' => e = .returned (.int .i64 (Lib.indexByte s.data.toList c.toNat.toUInt8)) ∧ w' = w := Any.strings_IndexByte Tryz.lays137 s c w
def Tryz.lays171_ren : Go.Shelf.Ren := ⟨fun | 171 => 96 | 243 => 97 | 246 => 98 | 283 => 99 | 284 => 100 | 285 => 101 | 286 => 102 | 129 => 104 | 317 => 103 | 318 => 105 | 319 => 106 | 320 => 107 | 337 => 108 | 338 => 109 | n => n, fun | 3 => 3 | 9 => 9 | 2 => 2 | 4 => 4 | 171 => 206 | 0 => 0 | 53 => 207 | 37 => 22 | 5 => 5 | 173 => 210 | 212 => 213 | 51 => 186 | 20 => 20 | 213 => 214 | 46 => 133 | 232 => 218 | 233 => 219 | n => n, fun | 17 => 4 | 18 => 5 | 19 => 6 | n => n⟩
theorem Tryz.lays171 : Go.Proofs.Lays.n171 Tryz.prog Tryz.lays171_ren := {
  mixed := by kernel_rfl
  f129 := Tryz.func104.trans (congrArg some (by kernel_rfl))
  f171 := Tryz.func96.trans (congrArg some (by kernel_rfl))
  f243 := Tryz.func97.trans (congrArg some (by kernel_rfl))
  f246 := Tryz.func98.trans (congrArg some (by kernel_rfl))
  f283 := Tryz.func99.trans (congrArg some (by kernel_rfl))
  f284 := Tryz.func100.trans (congrArg some (by kernel_rfl))
  f285 := Tryz.func101.trans (congrArg some (by kernel_rfl))
  f286 := Tryz.func102.trans (congrArg some (by kernel_rfl))
  f317 := Tryz.func103.trans (congrArg some (by kernel_rfl))
  f318 := Tryz.func105.trans (congrArg some (by kernel_rfl))
  f319 := Tryz.func106.trans (congrArg some (by kernel_rfl))
  f320 := Tryz.func107.trans (congrArg some (by kernel_rfl))
  f337 := Tryz.func108.trans (congrArg some (by kernel_rfl))
  f338 := Tryz.func109.trans (congrArg some (by kernel_rfl))
  t0 := Tryz.underlying0
  a0 := Tryz.isAgg0
  z0 := Tryz.sizeOf0
  v0 := Tryz.zeroValue0
  t2 := Tryz.underlying2
  a2 := Tryz.isAgg2
  z2 := Tryz.sizeOf2
  v2 := Tryz.zeroValue2
  t3 := Tryz.underlying3
  a3 := Tryz.isAgg3
  z3 := Tryz.sizeOf3
  v3 := Tryz.zeroValue3
  t4 := Tryz.underlying4
  a4 := Tryz.isAgg4
  z4 := Tryz.sizeOf4
  v4 := Tryz.zeroValue4
  t5 := Tryz.underlying5
  a5 := Tryz.isAgg5
  z5 := Tryz.sizeOf5
  v5 := Tryz.zeroValue5
  t9 := Tryz.underlying9
  a9 := Tryz.isAgg9
  z9 := Tryz.sizeOf9
  v9 := Tryz.zeroValue9
  t20 := Tryz.underlying20
  a20 := Tryz.isAgg20
  z20 := Tryz.sizeOf20
  v20 := Tryz.zeroValue20
  t37 := Tryz.underlying22
  a37 := Tryz.isAgg22
  z37 := Tryz.sizeOf22
  v37 := Tryz.zeroValue22
  t46 := Tryz.underlying133
  a46 := Tryz.isAgg133
  z46 := Tryz.sizeOf133
  v46 := Tryz.zeroValue133
  t51 := Tryz.underlying186
  a51 := Tryz.isAgg186
  z51 := Tryz.sizeOf186
  v51 := Tryz.zeroValue186
  t53 := Tryz.underlying207
  a53 := Tryz.isAgg207
  z53 := Tryz.sizeOf207
  v53 := Tryz.zeroValue207
  t171 := Tryz.underlying206
  a171 := Tryz.isAgg206
  z171 := Tryz.sizeOf206
  v171 := Tryz.zeroValue206
  t173 := Tryz.underlying210
  a173 := Tryz.isAgg210
  z173 := Tryz.sizeOf210
  v173 := Tryz.zeroValue210
  t212 := Tryz.underlying213
  a212 := Tryz.isAgg213
  z212 := Tryz.sizeOf213
  v212 := Tryz.zeroValue213
  t213 := Tryz.underlying214
  a213 := Tryz.isAgg214
  z213 := Tryz.sizeOf214
  t232 := Tryz.underlying218
  a232 := Tryz.isAgg218
  z232 := Tryz.sizeOf218
  v232 := Tryz.zeroValue218
  t233 := Tryz.underlying219
  a233 := Tryz.isAgg219
  z233 := Tryz.sizeOf219
  v233 := Tryz.zeroValue219
  g17 := by kernel_rfl
  g18 := by kernel_rfl
  g19 := by kernel_rfl }
open Go.RowKit Go.Sort Go.Lib in
/-- THE ROAD WITHOUT THE TABLE: 0 <= i < 100: NO PREMISE ON THE WORLD, AND THE WORLD IS AS IT WAS: a row that keeps its argument in that range need list no table ('laid = []'). (LAID: no walk: one application.) -/
theorem Tryz.strconv_Itoa_small (i : Nat) (hi : i < 100) (w : World) :
    Calls Tryz.prog 96 #[.int .i64 i] w fun e w' => e = .returned (.string ⟨(Lib.decDigits i).toArray⟩) ∧ w' = w := Any.strconv_Itoa_small Tryz.lays171 i hi w
def Tryz.laysM181_ren : Go.Shelf.Ren := ⟨fun | 181 => 91 | n => n, fun | 130 => 57 | 3 => 3 | 0 => 0 | 93 => 55 | 37 => 22 | 91 => 53 | 5 => 5 | n => n, fun | n => n⟩
theorem Tryz.laysM181 : Go.Proofs.LaysM.n181 Tryz.prog Tryz.laysM181_ren := {
  mixed := by kernel_rfl
  f181 := Tryz.func91.trans (congrArg some (by kernel_rfl))
  t0 := Tryz.underlying0
  a0 := Tryz.isAgg0
  z0 := Tryz.sizeOf0
  v0 := Tryz.zeroValue0
  t3 := Tryz.underlying3
  a3 := Tryz.isAgg3
  z3 := Tryz.sizeOf3
  v3 := Tryz.zeroValue3
  t37 := Tryz.underlying22
  a37 := Tryz.isAgg22
  z37 := Tryz.sizeOf22
  v37 := Tryz.zeroValue22
  t93 := Tryz.underlying55
  a93 := Tryz.isAgg55
  z93 := Tryz.sizeOf55
  v93 := Tryz.zeroValue55
  t130 := Tryz.underlying57
  a130 := Tryz.isAgg57
  z130 := Tryz.sizeOf57
  v130 := Tryz.zeroValue57
  t5 := Tryz.underlying5
  a5 := Tryz.isAgg5
  z5 := Tryz.sizeOf5
  v5 := Tryz.zeroValue5
  t91 := Tryz.underlying53
  a91 := Tryz.isAgg53
  z91 := Tryz.sizeOf53
  v91 := Tryz.zeroValue53
  i0 := by kernel_rfl
  i3 := by kernel_rfl
  i5 := by kernel_rfl
  i37 := by kernel_rfl
  i91 := by kernel_rfl
  i93 := by kernel_rfl
  i130 := by kernel_rfl }
open Go.RowKit in
/-- (*bytes.Buffer).Len: "Len returns the number of bytes of the unread portion of the buffer; b.Len() == len(b.Bytes()).": the world is as it was but for the count of draws (the statement has two reads: its order is drawn). (LAID: no walk: one application.) -/
theorem Tryz.Buffer_Len (B b : Nat) (bs : List Value) (w : World) (h : Lib.IsBuffer 55 5 B b bs w) :
    Calls Tryz.prog 91 #[.pointer (some ⟨b, 0, none⟩)] w fun e w' => e = .returned (.int .i64 bs.length) ∧ ∃ n, w' = w.drewN n := Any.Buffer_Len Tryz.laysM181 B b bs w h
def Tryz.laysM182_ren : Go.Shelf.Ren := ⟨fun | 182 => 16 | n => n, fun | 130 => 57 | 9 => 9 | 4 => 4 | 0 => 0 | 93 => 55 | 37 => 22 | 3 => 3 | 91 => 53 | 5 => 5 | n => n, fun | n => n⟩
theorem Tryz.laysM182 : Go.Proofs.LaysM.n182 Tryz.prog Tryz.laysM182_ren := {
  mixed := by kernel_rfl
  f182 := Tryz.func16.trans (congrArg some (by kernel_rfl))
  t0 := Tryz.underlying0
  a0 := Tryz.isAgg0
  z0 := Tryz.sizeOf0
  v0 := Tryz.zeroValue0
  t3 := Tryz.underlying3
  a3 := Tryz.isAgg3
  z3 := Tryz.sizeOf3
  v3 := Tryz.zeroValue3
  t4 := Tryz.underlying4
  a4 := Tryz.isAgg4
  z4 := Tryz.sizeOf4
  v4 := Tryz.zeroValue4
  t9 := Tryz.underlying9
  a9 := Tryz.isAgg9
  z9 := Tryz.sizeOf9
  v9 := Tryz.zeroValue9
  t37 := Tryz.underlying22
  a37 := Tryz.isAgg22
  z37 := Tryz.sizeOf22
  v37 := Tryz.zeroValue22
  t93 := Tryz.underlying55
  a93 := Tryz.isAgg55
  z93 := Tryz.sizeOf55
  v93 := Tryz.zeroValue55
  t130 := Tryz.underlying57
  a130 := Tryz.isAgg57
  z130 := Tryz.sizeOf57
  v130 := Tryz.zeroValue57
  t5 := Tryz.underlying5
  a5 := Tryz.isAgg5
  z5 := Tryz.sizeOf5
  v5 := Tryz.zeroValue5
  t91 := Tryz.underlying53
  a91 := Tryz.isAgg53
  z91 := Tryz.sizeOf53
  v91 := Tryz.zeroValue53
  i0 := by kernel_rfl
  i3 := by kernel_rfl
  i4 := by kernel_rfl
  i5 := by kernel_rfl
  i9 := by kernel_rfl
  i37 := by kernel_rfl
  i91 := by kernel_rfl
  i93 := by kernel_rfl
  i130 := by kernel_rfl }
open Go.RowKit in
/-- (*bytes.Buffer).String: "String returns the contents of the unread portion of the buffer as a string.": THE BYTES THAT WERE WRITTEN. The world is as it was but for the count of draws (the statement has two reads: its order is drawn). (LAID: no walk: one application.) -/
theorem Tryz.Buffer_String (B b : Nat) (l : List UInt8) (w : World) (h : Lib.IsBuffer 55 5 B b (Lib.byteCells l) w) :
    Calls Tryz.prog 16 #[.pointer (some ⟨b, 0, none⟩)] w fun e w' => e = .returned (.string ⟨l.toArray⟩) ∧ ∃ n, w' = w.drewN n := Any.Buffer_String Tryz.laysM182 B b l w h
def Tryz.laysM183_ren : Go.Shelf.Ren := ⟨fun | 183 => 122 | n => n, fun | 130 => 57 | 37 => 22 | 0 => 0 | 93 => 55 | 3 => 3 | 5 => 5 | 91 => 53 | n => n, fun | n => n⟩
theorem Tryz.laysM183 : Go.Proofs.LaysM.n183 Tryz.prog Tryz.laysM183_ren := {
  mixed := by kernel_rfl
  f183 := Tryz.func122.trans (congrArg some (by kernel_rfl))
  t0 := Tryz.underlying0
  a0 := Tryz.isAgg0
  z0 := Tryz.sizeOf0
  v0 := Tryz.zeroValue0
  t3 := Tryz.underlying3
  a3 := Tryz.isAgg3
  z3 := Tryz.sizeOf3
  v3 := Tryz.zeroValue3
  t37 := Tryz.underlying22
  a37 := Tryz.isAgg22
  z37 := Tryz.sizeOf22
  v37 := Tryz.zeroValue22
  t93 := Tryz.underlying55
  a93 := Tryz.isAgg55
  z93 := Tryz.sizeOf55
  v93 := Tryz.zeroValue55
  t130 := Tryz.underlying57
  a130 := Tryz.isAgg57
  z130 := Tryz.sizeOf57
  v130 := Tryz.zeroValue57
  t5 := Tryz.underlying5
  a5 := Tryz.isAgg5
  z5 := Tryz.sizeOf5
  v5 := Tryz.zeroValue5
  t91 := Tryz.underlying53
  a91 := Tryz.isAgg53
  z91 := Tryz.sizeOf53
  v91 := Tryz.zeroValue53
  i0 := by kernel_rfl
  i3 := by kernel_rfl
  i5 := by kernel_rfl
  i37 := by kernel_rfl
  i91 := by kernel_rfl
  i93 := by kernel_rfl
  i130 := by kernel_rfl }
open Go.RowKit in
/-- (*bytes.Buffer).Bytes: "Bytes returns a slice of length b.Len() holding the unread portion of the buffer. .. The slice aliases the buffer content at least until the next buffer modification": A SLICE THAT OWNS THE CELLS bs ('World.ownsRow': nil where nothing was ever written). The world is as it was but for the count of draws. (LAID: no walk: one application.) -/
theorem Tryz.Buffer_Bytes (B b : Nat) (bs : List Value) (w : World) (h : Lib.IsBuffer 55 5 B b bs w) :
    Calls Tryz.prog 122 #[.pointer (some ⟨b, 0, none⟩)] w fun e w' => ∃ v, e = .returned v ∧ w'.ownsRow B 5 1 v bs.length bs ∧ ∃ n, w' = w.drewN n := Any.Buffer_Bytes Tryz.laysM183 B b bs w h
def Tryz.laysM179_ren : Go.Shelf.Ren := ⟨fun | 179 => 114 | 251 => 89 | 252 => 90 | 181 => 91 | 184 => 82 | 290 => 92 | 324 => 93 | n => n, fun | 130 => 57 | 5 => 5 | 75 => 198 | 0 => 0 | 93 => 55 | 91 => 53 | 3 => 3 | 131 => 201 | 4 => 4 | 37 => 22 | 20 => 20 | 80 => 58 | 9 => 9 | n => n, fun | 14 => 3 | n => n⟩
theorem Tryz.laysM179 : Go.Proofs.LaysM.n179 Tryz.prog Tryz.laysM179_ren := {
  mixed := by kernel_rfl
  f179 := Tryz.func114.trans (congrArg some (by kernel_rfl))
  f181 := Tryz.func91.trans (congrArg some (by kernel_rfl))
  f184 := Tryz.func82.trans (congrArg some (by kernel_rfl))
  f251 := Tryz.func89.trans (congrArg some (by kernel_rfl))
  f252 := Tryz.func90.trans (congrArg some (by kernel_rfl))
  f290 := Tryz.func92.trans (congrArg some (by kernel_rfl))
  f324 := Tryz.func93.trans (congrArg some (by kernel_rfl))
  t0 := Tryz.underlying0
  a0 := Tryz.isAgg0
  z0 := Tryz.sizeOf0
  v0 := Tryz.zeroValue0
  t3 := Tryz.underlying3
  a3 := Tryz.isAgg3
  z3 := Tryz.sizeOf3
  v3 := Tryz.zeroValue3
  t4 := Tryz.underlying4
  a4 := Tryz.isAgg4
  z4 := Tryz.sizeOf4
  v4 := Tryz.zeroValue4
  t5 := Tryz.underlying5
  a5 := Tryz.isAgg5
  z5 := Tryz.sizeOf5
  v5 := Tryz.zeroValue5
  t20 := Tryz.underlying20
  a20 := Tryz.isAgg20
  z20 := Tryz.sizeOf20
  v20 := Tryz.zeroValue20
  t37 := Tryz.underlying22
  a37 := Tryz.isAgg22
  z37 := Tryz.sizeOf22
  v37 := Tryz.zeroValue22
  t75 := Tryz.underlying198
  a75 := Tryz.isAgg198
  z75 := Tryz.sizeOf198
  v75 := Tryz.zeroValue198
  t91 := Tryz.underlying53
  a91 := Tryz.isAgg53
  z91 := Tryz.sizeOf53
  v91 := Tryz.zeroValue53
  t93 := Tryz.underlying55
  a93 := Tryz.isAgg55
  z93 := Tryz.sizeOf55
  v93 := Tryz.zeroValue55
  t130 := Tryz.underlying57
  a130 := Tryz.isAgg57
  z130 := Tryz.sizeOf57
  v130 := Tryz.zeroValue57
  t131 := Tryz.underlying201
  a131 := Tryz.isAgg201
  z131 := Tryz.sizeOf201
  v131 := Tryz.zeroValue201
  g14 := by kernel_rfl
  t9 := Tryz.underlying9
  a9 := Tryz.isAgg9
  z9 := Tryz.sizeOf9
  v9 := Tryz.zeroValue9
  t80 := Tryz.underlying58
  a80 := Tryz.isAgg58
  z80 := Tryz.sizeOf58
  v80 := Tryz.zeroValue58
  i0 := by kernel_rfl
  i3 := by kernel_rfl
  i4 := by kernel_rfl
  i5 := by kernel_rfl
  i9 := by kernel_rfl
  i20 := by kernel_rfl
  i37 := by kernel_rfl
  i75 := by kernel_rfl
  i80 := by kernel_rfl
  i91 := by kernel_rfl
  i93 := by kernel_rfl
  i130 := by kernel_rfl
  i131 := by kernel_rfl
  m14 := by kernel_rfl }
def Tryz.laysM178_ren : Go.Shelf.Ren := ⟨fun | 178 => 88 | 251 => 89 | 252 => 90 | 181 => 91 | 184 => 82 | 290 => 92 | 324 => 93 | n => n, fun | 130 => 57 | 9 => 9 | 3 => 3 | 75 => 198 | 0 => 0 | 93 => 55 | 91 => 53 | 131 => 201 | 4 => 4 | 37 => 22 | 20 => 20 | 80 => 58 | 5 => 5 | n => n, fun | 14 => 3 | n => n⟩
theorem Tryz.laysM178 : Go.Proofs.LaysM.n178 Tryz.prog Tryz.laysM178_ren := {
  mixed := by kernel_rfl
  f178 := Tryz.func88.trans (congrArg some (by kernel_rfl))
  f181 := Tryz.func91.trans (congrArg some (by kernel_rfl))
  f184 := Tryz.func82.trans (congrArg some (by kernel_rfl))
  f251 := Tryz.func89.trans (congrArg some (by kernel_rfl))
  f252 := Tryz.func90.trans (congrArg some (by kernel_rfl))
  f290 := Tryz.func92.trans (congrArg some (by kernel_rfl))
  f324 := Tryz.func93.trans (congrArg some (by kernel_rfl))
  t0 := Tryz.underlying0
  a0 := Tryz.isAgg0
  z0 := Tryz.sizeOf0
  v0 := Tryz.zeroValue0
  t3 := Tryz.underlying3
  a3 := Tryz.isAgg3
  z3 := Tryz.sizeOf3
  v3 := Tryz.zeroValue3
  t4 := Tryz.underlying4
  a4 := Tryz.isAgg4
  z4 := Tryz.sizeOf4
  v4 := Tryz.zeroValue4
  t9 := Tryz.underlying9
  a9 := Tryz.isAgg9
  z9 := Tryz.sizeOf9
  v9 := Tryz.zeroValue9
  t20 := Tryz.underlying20
  a20 := Tryz.isAgg20
  z20 := Tryz.sizeOf20
  v20 := Tryz.zeroValue20
  t37 := Tryz.underlying22
  a37 := Tryz.isAgg22
  z37 := Tryz.sizeOf22
  v37 := Tryz.zeroValue22
  t75 := Tryz.underlying198
  a75 := Tryz.isAgg198
  z75 := Tryz.sizeOf198
  v75 := Tryz.zeroValue198
  t91 := Tryz.underlying53
  a91 := Tryz.isAgg53
  z91 := Tryz.sizeOf53
  v91 := Tryz.zeroValue53
  t93 := Tryz.underlying55
  a93 := Tryz.isAgg55
  z93 := Tryz.sizeOf55
  v93 := Tryz.zeroValue55
  t130 := Tryz.underlying57
  a130 := Tryz.isAgg57
  z130 := Tryz.sizeOf57
  v130 := Tryz.zeroValue57
  t131 := Tryz.underlying201
  a131 := Tryz.isAgg201
  z131 := Tryz.sizeOf201
  v131 := Tryz.zeroValue201
  g14 := by kernel_rfl
  t5 := Tryz.underlying5
  a5 := Tryz.isAgg5
  z5 := Tryz.sizeOf5
  v5 := Tryz.zeroValue5
  t80 := Tryz.underlying58
  a80 := Tryz.isAgg58
  z80 := Tryz.sizeOf58
  v80 := Tryz.zeroValue58
  i0 := by kernel_rfl
  i3 := by kernel_rfl
  i4 := by kernel_rfl
  i5 := by kernel_rfl
  i9 := by kernel_rfl
  i20 := by kernel_rfl
  i37 := by kernel_rfl
  i75 := by kernel_rfl
  i80 := by kernel_rfl
  i91 := by kernel_rfl
  i93 := by kernel_rfl
  i130 := by kernel_rfl
  i131 := by kernel_rfl
  m14 := by kernel_rfl }
open Go.RowKit in
theorem Tryz.Buffer_WriteByte_k (B b : Nat) (bs : List Value) (c : Int) (w : World) (h : Lib.IsBuffer 55 5 B b bs w) (hBw : B ≤ w.heap.size) (h1 : ∀ v ∈ bs, v.oneCell' = true) (hlim : bs.length + 1 ≤ 140737488355328) :
    Calls Tryz.prog 114 #[.pointer (some ⟨b, 0, none⟩), .int .u8 c] w fun e w' => e = .returned .nilIface ∧ Lib.IsBuffer 55 5 B b (bs ++ [.int .u8 c]) w' ∧ Below B w w' ∧ Lib.OthersKept 5 (some b) w w' := Any.Buffer_WriteByte_k Tryz.laysM179 B b bs c w h hBw h1 hlim
open Go.RowKit in
theorem Tryz.Buffer_WriteString_k (B b : Nat) (bs : List Value) (s : ByteArray) (w : World) (h : Lib.IsBuffer 55 5 B b bs w) (hBw : B ≤ w.heap.size) (h1 : ∀ v ∈ bs, v.oneCell' = true) (hlim : bs.length + s.size ≤ 140737488355328) :
    Calls Tryz.prog 88 #[.pointer (some ⟨b, 0, none⟩), .string s] w fun e w' => e = .returned (.tuple #[.int .i64 s.size, .nilIface]) ∧ Lib.IsBuffer 55 5 B b (bs ++ Lib.byteCells s.data.toList) w' ∧ Below B w w' ∧ Lib.OthersKept 5 (some b) w w' := Any.Buffer_WriteString_k Tryz.laysM178 B b bs s w h hBw h1 hlim
def Tryz.lays102_ren : Go.Shelf.Ren := ⟨fun | 102 => 43 | 209 => 55 | 207 => 62 | n => n, fun | 9 => 9 | 4 => 4 | 3 => 3 | n => n, fun | n => n⟩
theorem Tryz.lays102 : Go.Proofs.Lays.n102 Tryz.prog Tryz.lays102_ren := {
  mixed := by kernel_rfl
  f102 := Tryz.func43.trans (congrArg some (by kernel_rfl))
  f207 := Tryz.func62.trans (congrArg some (by kernel_rfl))
  f209 := Tryz.func55.trans (congrArg some (by kernel_rfl))
  t3 := Tryz.underlying3
  a3 := Tryz.isAgg3
  z3 := Tryz.sizeOf3
  v3 := Tryz.zeroValue3
  t4 := Tryz.underlying4
  a4 := Tryz.isAgg4
  z4 := Tryz.sizeOf4
  v4 := Tryz.zeroValue4
  t9 := Tryz.underlying9
  a9 := Tryz.isAgg9
  z9 := Tryz.sizeOf9
  v9 := Tryz.zeroValue9 }
open Go.RowKit Go.Lib in
/-- strings.TrimSuffix: "TrimSuffix returns s without the provided trailing suffix string. If s doesn't end with suffix, s is returned unchanged.": IT RETURNS 'Lib.trimSuffix s suffix'; the world is as it was. (LAID: no walk: one application.) -/
theorem Tryz.strings_TrimSuffix (s p : ByteArray) (w : World) (hs : s.size ≤ 9223372036854775807) :
    Calls Tryz.prog 43 #[.string s, .string p] w fun e w' => e = .returned (.string ⟨(Lib.trimSuffix s.data.toList p.data.toList).toArray⟩) ∧ w' = w := Any.strings_TrimSuffix Tryz.lays102 s p w hs
def Tryz.lays197_ren : Go.Shelf.Ren := ⟨fun | 197 => 19 | 260 => 39 | n => n, fun | 9 => 9 | 21 => 21 | 3 => 3 | 4 => 4 | 5 => 5 | 105 => 74 | 119 => 132 | 0 => 0 | 46 => 133 | 139 => 136 | 138 => 135 | n => n, fun | 3 => 0 | 4 => 1 | n => n⟩
theorem Tryz.lays197 : Go.Proofs.Lays.n197 Tryz.prog Tryz.lays197_ren := {
  mixed := by kernel_rfl
  f197 := Tryz.func19.trans (congrArg some (by kernel_rfl))
  f260 := Tryz.func39.trans (congrArg some (by kernel_rfl))
  t0 := Tryz.underlying0
  a0 := Tryz.isAgg0
  z0 := Tryz.sizeOf0
  v0 := Tryz.zeroValue0
  t3 := Tryz.underlying3
  a3 := Tryz.isAgg3
  z3 := Tryz.sizeOf3
  v3 := Tryz.zeroValue3
  t4 := Tryz.underlying4
  a4 := Tryz.isAgg4
  z4 := Tryz.sizeOf4
  v4 := Tryz.zeroValue4
  t5 := Tryz.underlying5
  a5 := Tryz.isAgg5
  z5 := Tryz.sizeOf5
  v5 := Tryz.zeroValue5
  t9 := Tryz.underlying9
  a9 := Tryz.isAgg9
  z9 := Tryz.sizeOf9
  v9 := Tryz.zeroValue9
  t21 := Tryz.underlying21
  a21 := Tryz.isAgg21
  z21 := Tryz.sizeOf21
  v21 := Tryz.zeroValue21
  t46 := Tryz.underlying133
  a46 := Tryz.isAgg133
  z46 := Tryz.sizeOf133
  v46 := Tryz.zeroValue133
  t105 := Tryz.underlying74
  a105 := Tryz.isAgg74
  z105 := Tryz.sizeOf74
  v105 := Tryz.zeroValue74
  t119 := Tryz.underlying132
  a119 := Tryz.isAgg132
  z119 := Tryz.sizeOf132
  t138 := Tryz.underlying135
  a138 := Tryz.isAgg135
  z138 := Tryz.sizeOf135
  v138 := Tryz.zeroValue135
  t139 := Tryz.underlying136
  a139 := Tryz.isAgg136
  z139 := Tryz.sizeOf136
  v139 := Tryz.zeroValue136
  g3 := by kernel_rfl
  g4 := by kernel_rfl }
open Go.RowKit Go.Lib in
/-- unicode/utf8.DecodeRuneInString: "DecodeRuneInString is like DecodeRune but its input is a string.": ("DecodeRune unpacks the first UTF-8 encoding in p and returns the rune and its width in bytes."): WHERE s BEGINS WITH AN ASCII BYTE x: (x, 1). (LAID: no walk: one application.) -/
theorem Tryz.utf8_DecodeRuneInString_ascii (s : ByteArray) (x : UInt8) (w : World) (h0 : s.data.toList[0]? = some x) (hx : x.toNat < 128) :
    Calls Tryz.prog 19 #[.string s] w fun e w' => e = .returned (.tuple #[.int .i32 x.toNat, .int .i64 1]) ∧ w' = w := Any.utf8_DecodeRuneInString_ascii Tryz.lays197 s x w h0 hx

end Go.Proofs
