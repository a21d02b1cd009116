/-
  DERIVED: THE SHELF's CONTRACTS AT THIS DUMP, IN PLAIN WORDS (tools/lay-plain.mjs out of 'TryzShelf.lean', which tools/lay-shelf.mjs wrote): THE SAME DECLARATIONS UNDER THE SAME NAMES: 'import', 'namespace', 'open', 'def', 'theorem' AND NOTHING ELSE: no command of the shelf's: FOR A HAND-IN. Each laying: the table of numbers ('.._ren') and one theorem, a field a fact of the dump's own or the kernel's comparison; each contract: ONE APPLICATION.
-/
import Derived.Shelf.Strings.Builder1
import Derived.Shelf.Strings.Builder2
import Derived.Shelf.Strings.OnBuilder
import Derived.Shelf.Strings.BuilderF
import Derived.Shelf.Strings.BuilderK
import Derived.Shelf.Utf8.AppendRunePlain
import Derived.Shelf.LaysM
import Derived.Shelf.Bytes.Len
import Derived.Shelf.Bytes.TryGrow
import Derived.Shelf.Bytes.GrowSliceCatch
import Derived.Shelf.Bytes.GrowSlice
import Derived.Shelf.Bytes.String
import Derived.Shelf.Bytes.GrowRow0Kept
import Derived.Shelf.Bytes.GrowRowKept
import Derived.Shelf.Bytes.GrowNilKept
import Derived.Shelf.Bytes.GrowKept
import Derived.Shelf.Bytes.WriteByteKept
import Derived.Shelf.Bytes.ResetKept
import Derived.Shelf.Bytes.WriteKept
import Derived.Shelf.Bytes.BufferK
import Derived.Shelf.Bytes.GrowRow0Own
import Derived.Shelf.Bytes.GrowRowOwn
import Derived.Shelf.Bytes.GrowNilOwn
import Derived.Shelf.Bytes.GrowOwn
import Derived.Ground.MzProg
import Derived.Shelf.Wr.WriteRuneAscii
import Derived.Shelf.Wr.WriteRune
import Derived.Test.YtfblohdfmaankaaGreatDoorProg
namespace Go.Proofs
open Go.Shelf
def Tryz.lays156_ren : Go.Shelf.Ren := ⟨fun | 156 => 115 | 165 => 127 | 166 => 128 | 169 => 129 | 240 => 136 | 241 => 137 | 276 => 138 | 277 => 139 | n => n, fun | 31 => 160 | 9 => 9 | 3 => 3 | 4 => 4 | 0 => 0 | 20 => 20 | 72 => 227 | 76 => 181 | 70 => 225 | 37 => 58 | 75 => 37 | 127 => 259 | 164 => 261 | 5 => 5 | 80 => 188 | n => n, fun | n => n⟩
theorem Tryz.lays156 : Go.Proofs.Lays.n156 Tryz.prog Tryz.lays156_ren := {
  mixed := by kernel_rfl
  f156 := Tryz.func115.trans (congrArg some (by kernel_rfl))
  f165 := Tryz.func127.trans (congrArg some (by kernel_rfl))
  f166 := Tryz.func128.trans (congrArg some (by kernel_rfl))
  f169 := Tryz.func129.trans (congrArg some (by kernel_rfl))
  f240 := Tryz.func136.trans (congrArg some (by kernel_rfl))
  f241 := Tryz.func137.trans (congrArg some (by kernel_rfl))
  f276 := Tryz.func138.trans (congrArg some (by kernel_rfl))
  f277 := Tryz.func139.trans (congrArg some (by kernel_rfl))
  t0 := Tryz.underlying0
  a0 := Tryz.isAgg0
  z0 := Tryz.sizeOf0
  v0 := Tryz.zeroValue0
  t3 := Tryz.underlying3
  a3 := Tryz.isAgg3
  z3 := Tryz.sizeOf3
  v3 := Tryz.zeroValue3
  t4 := Tryz.underlying4
  a4 := Tryz.isAgg4
  z4 := Tryz.sizeOf4
  v4 := Tryz.zeroValue4
  t9 := Tryz.underlying9
  a9 := Tryz.isAgg9
  z9 := Tryz.sizeOf9
  v9 := Tryz.zeroValue9
  t20 := Tryz.underlying20
  a20 := Tryz.isAgg20
  z20 := Tryz.sizeOf20
  v20 := Tryz.zeroValue20
  t31 := Tryz.underlying160
  a31 := Tryz.isAgg160
  z31 := Tryz.sizeOf160
  v31 := Tryz.zeroValue160
  t37 := Tryz.underlying58
  a37 := Tryz.isAgg58
  z37 := Tryz.sizeOf58
  v37 := Tryz.zeroValue58
  t70 := Tryz.underlying225
  a70 := Tryz.isAgg225
  z70 := Tryz.sizeOf225
  v70 := Tryz.zeroValue225
  t72 := Tryz.underlying227
  a72 := Tryz.isAgg227
  z72 := Tryz.sizeOf227
  v72 := Tryz.zeroValue227
  t75 := Tryz.underlying37
  a75 := Tryz.isAgg37
  z75 := Tryz.sizeOf37
  v75 := Tryz.zeroValue37
  t76 := Tryz.underlying181
  a76 := Tryz.isAgg181
  z76 := Tryz.sizeOf181
  v76 := Tryz.zeroValue181
  t127 := Tryz.underlying259
  a127 := Tryz.isAgg259
  z127 := Tryz.sizeOf259
  v127 := Tryz.zeroValue259
  t164 := Tryz.underlying261
  a164 := Tryz.isAgg261
  z164 := Tryz.sizeOf261
  v164 := Tryz.zeroValue261 }
theorem Tryz.Builder_Extra_156 : Builder.Extra Tryz.prog Tryz.lays156_ren := {
  sizeBuilder := by kernel_rfl
  liesBuilder := by kernel_rfl
  t5 := Tryz.underlying5
  a5 := Tryz.isAgg5
  z5 := Tryz.sizeOf5
  v5 := Tryz.zeroValue5
  infoByte := by kernel_rfl
  cellsByte := by kernel_rfl
  sizeByte := by kernel_rfl
  neB5 := by decide }
open Go.RowKit in
/-- No element: the empty string; the world is as it was. (Whatever the slice's address and capacity: a nil slice too.) (LAID: no walk: one application.) -/
theorem Tryz.strings_Join_none (a : Option Addr) (c : Nat) (sep : ByteArray) (w : World) :
    Calls Tryz.prog 115 #[.slice a 0 c, .string sep] w fun e w' => e = .returned (.string ⟨#[]⟩) ∧ w' = w := Any.strings_Join_none Tryz.lays156 Tryz.Builder_Extra_156 a c sep w
open Go.RowKit in
/-- strings.Join: "Join concatenates the elements of its first argument to create a single string. The separator string sep is placed between elements in the resulting string.": HOWEVER MANY ELEMENTS. Below the heap's end the world is as it was. (LAID: no walk: one application.) -/
theorem Tryz.strings_Join (bk o c : Nat) (xs : List ByteArray) (sep : ByteArray) (w : World) (hcells : ∀ (j : Nat) x, xs[j]? = some x → w.cell? ⟨bk, o + j, none⟩ = some (.string x)) (hbk : bk < w.heap.size) (hN : xs.length ≤ 140737488355328) (hcap : xs.length ≤ c) (hlen : (Lib.join (xs.map (·.data.toList)) sep.data.toList).length ≤ 140737488355328) :
    Calls Tryz.prog 115 #[.slice (some ⟨bk, o, none⟩) xs.length c, .string sep] w fun e w' => e = .returned (.string ⟨(Lib.join (xs.map (·.data.toList)) sep.data.toList).toArray⟩) ∧ Below w.heap.size w w' := Any.strings_Join Tryz.lays156 Tryz.Builder_Extra_156 bk o c xs sep w hcells hbk hN hcap hlen
def Tryz.laysM182_ren : Go.Shelf.Ren := ⟨fun | 182 => 97 | n => n, fun | 130 => 195 | 9 => 9 | 4 => 4 | 0 => 0 | 93 => 186 | 37 => 58 | 3 => 3 | 91 => 184 | 5 => 5 | n => n, fun | n => n⟩
theorem Tryz.laysM182 : Go.Proofs.LaysM.n182 Tryz.prog Tryz.laysM182_ren := {
  mixed := by kernel_rfl
  f182 := Tryz.func97.trans (congrArg some (by kernel_rfl))
  t0 := Tryz.underlying0
  a0 := Tryz.isAgg0
  z0 := Tryz.sizeOf0
  v0 := Tryz.zeroValue0
  t3 := Tryz.underlying3
  a3 := Tryz.isAgg3
  z3 := Tryz.sizeOf3
  v3 := Tryz.zeroValue3
  t4 := Tryz.underlying4
  a4 := Tryz.isAgg4
  z4 := Tryz.sizeOf4
  v4 := Tryz.zeroValue4
  t9 := Tryz.underlying9
  a9 := Tryz.isAgg9
  z9 := Tryz.sizeOf9
  v9 := Tryz.zeroValue9
  t37 := Tryz.underlying58
  a37 := Tryz.isAgg58
  z37 := Tryz.sizeOf58
  v37 := Tryz.zeroValue58
  t93 := Tryz.underlying186
  a93 := Tryz.isAgg186
  z93 := Tryz.sizeOf186
  v93 := Tryz.zeroValue186
  t130 := Tryz.underlying195
  a130 := Tryz.isAgg195
  z130 := Tryz.sizeOf195
  v130 := Tryz.zeroValue195
  t5 := Tryz.underlying5
  a5 := Tryz.isAgg5
  z5 := Tryz.sizeOf5
  v5 := Tryz.zeroValue5
  t91 := Tryz.underlying184
  a91 := Tryz.isAgg184
  z91 := Tryz.sizeOf184
  v91 := Tryz.zeroValue184
  i0 := by kernel_rfl
  i3 := by kernel_rfl
  i4 := by kernel_rfl
  i5 := by kernel_rfl
  i9 := by kernel_rfl
  i37 := by kernel_rfl
  i91 := by kernel_rfl
  i93 := by kernel_rfl
  i130 := by kernel_rfl }
open Go.RowKit in
/-- (*bytes.Buffer).String: "String returns the contents of the unread portion of the buffer as a string.": THE BYTES THAT WERE WRITTEN. The world is as it was but for the count of draws (the statement has two reads: its order is drawn). (LAID: no walk: one application.) -/
theorem Tryz.Buffer_String (B b : Nat) (l : List UInt8) (w : World) (h : Lib.IsBuffer 186 5 B b (Lib.byteCells l) w) :
    Calls Tryz.prog 97 #[.pointer (some ⟨b, 0, none⟩)] w fun e w' => e = .returned (.string ⟨l.toArray⟩) ∧ ∃ n, w' = w.drewN n := Any.Buffer_String Tryz.laysM182 B b l w h
def Tryz.laysM180_ren : Go.Shelf.Ren := ⟨fun | 180 => 95 | 251 => 110 | 252 => 111 | 181 => 124 | 184 => 125 | 290 => 126 | 324 => 135 | n => n, fun | 130 => 195 | 37 => 58 | 3 => 3 | 75 => 37 | 0 => 0 | 93 => 186 | 91 => 184 | 131 => 196 | 4 => 4 | 20 => 20 | 5 => 5 | 80 => 188 | 9 => 9 | n => n, fun | 14 => 2 | n => n⟩
theorem Tryz.laysM180 : Go.Proofs.LaysM.n180 Tryz.prog Tryz.laysM180_ren := {
  mixed := by kernel_rfl
  f180 := Tryz.func95.trans (congrArg some (by kernel_rfl))
  f181 := Tryz.func124.trans (congrArg some (by kernel_rfl))
  f184 := Tryz.func125.trans (congrArg some (by kernel_rfl))
  f251 := Tryz.func110.trans (congrArg some (by kernel_rfl))
  f252 := Tryz.func111.trans (congrArg some (by kernel_rfl))
  f290 := Tryz.func126.trans (congrArg some (by kernel_rfl))
  f324 := Tryz.func135.trans (congrArg some (by kernel_rfl))
  t0 := Tryz.underlying0
  a0 := Tryz.isAgg0
  z0 := Tryz.sizeOf0
  v0 := Tryz.zeroValue0
  t3 := Tryz.underlying3
  a3 := Tryz.isAgg3
  z3 := Tryz.sizeOf3
  v3 := Tryz.zeroValue3
  t4 := Tryz.underlying4
  a4 := Tryz.isAgg4
  z4 := Tryz.sizeOf4
  v4 := Tryz.zeroValue4
  t20 := Tryz.underlying20
  a20 := Tryz.isAgg20
  z20 := Tryz.sizeOf20
  v20 := Tryz.zeroValue20
  t37 := Tryz.underlying58
  a37 := Tryz.isAgg58
  z37 := Tryz.sizeOf58
  v37 := Tryz.zeroValue58
  t75 := Tryz.underlying37
  a75 := Tryz.isAgg37
  z75 := Tryz.sizeOf37
  v75 := Tryz.zeroValue37
  t91 := Tryz.underlying184
  a91 := Tryz.isAgg184
  z91 := Tryz.sizeOf184
  v91 := Tryz.zeroValue184
  t93 := Tryz.underlying186
  a93 := Tryz.isAgg186
  z93 := Tryz.sizeOf186
  v93 := Tryz.zeroValue186
  t130 := Tryz.underlying195
  a130 := Tryz.isAgg195
  z130 := Tryz.sizeOf195
  v130 := Tryz.zeroValue195
  t131 := Tryz.underlying196
  a131 := Tryz.isAgg196
  z131 := Tryz.sizeOf196
  v131 := Tryz.zeroValue196
  g14 := by kernel_rfl
  t5 := Tryz.underlying5
  a5 := Tryz.isAgg5
  z5 := Tryz.sizeOf5
  v5 := Tryz.zeroValue5
  t9 := Tryz.underlying9
  a9 := Tryz.isAgg9
  z9 := Tryz.sizeOf9
  v9 := Tryz.zeroValue9
  t80 := Tryz.underlying188
  a80 := Tryz.isAgg188
  z80 := Tryz.sizeOf188
  v80 := Tryz.zeroValue188
  i0 := by kernel_rfl
  i3 := by kernel_rfl
  i4 := by kernel_rfl
  i5 := by kernel_rfl
  i9 := by kernel_rfl
  i20 := by kernel_rfl
  i37 := by kernel_rfl
  i75 := by kernel_rfl
  i80 := by kernel_rfl
  i91 := by kernel_rfl
  i93 := by kernel_rfl
  i130 := by kernel_rfl
  i131 := by kernel_rfl
  m14 := by kernel_rfl }
open Go.RowKit in
theorem Tryz.Buffer_Write_k (B b : Nat) (bs cs : List Value) (a : Addr) (n c : Nat) (w : World) (h : Lib.IsBuffer 186 5 B b bs w) (hBw : B ≤ w.heap.size) (h1 : ∀ v ∈ bs, v.oneCell' = true) (hn : cs.length = n) (haB : a.block < B) (hsrc : ∀ j v, cs[j]? = some v → w.cell? (a.add j) = some v) (h1c : ∀ v ∈ cs, v.oneCell' = true) (hlim : bs.length + n ≤ 140737488355328) :
    Calls Tryz.prog 95 #[.pointer (some ⟨b, 0, none⟩), .slice (some a) n c] w fun e w' => e = .returned (.tuple #[.int .i64 n, .nilIface]) ∧ Lib.IsBuffer 186 5 B b (bs ++ cs) w' ∧ Below B w w' ∧ Lib.OthersKept 5 (some b) w w' := Any.Buffer_Write_k Tryz.laysM180 B b bs cs a n c w h hBw h1 hn haB hsrc h1c hlim
def Tryz.laysWr5_ren : Go.Shelf.Ren := ⟨fun | 5 => 98 | 7 => 116 | 8 => 110 | 9 => 111 | 10 => 117 | 11 => 124 | 12 => 125 | 13 => 126 | 14 => 130 | 15 => 135 | n => n, fun | 34 => 195 | 21 => 21 | 3 => 3 | 28 => 37 | 35 => 200 | 4 => 4 | 5 => 5 | 0 => 0 | 26 => 186 | 24 => 184 | 37 => 196 | 22 => 58 | 43 => 51 | 20 => 20 | 31 => 188 | 9 => 9 | n => n, fun | 0 => 2 | n => n⟩
theorem Tryz.laysWr5 : Go.Proofs.LaysWr.n5 Tryz.prog Tryz.laysWr5_ren := {
  mixed := by kernel_rfl
  f5 := Tryz.func98.trans (congrArg some (by kernel_rfl))
  f7 := Tryz.func116.trans (congrArg some (by kernel_rfl))
  f8 := Tryz.func110.trans (congrArg some (by kernel_rfl))
  f9 := Tryz.func111.trans (congrArg some (by kernel_rfl))
  f10 := Tryz.func117.trans (congrArg some (by kernel_rfl))
  f11 := Tryz.func124.trans (congrArg some (by kernel_rfl))
  f12 := Tryz.func125.trans (congrArg some (by kernel_rfl))
  f13 := Tryz.func126.trans (congrArg some (by kernel_rfl))
  f14 := Tryz.func130.trans (congrArg some (by kernel_rfl))
  f15 := Tryz.func135.trans (congrArg some (by kernel_rfl))
  t0 := Tryz.underlying0
  a0 := Tryz.isAgg0
  z0 := Tryz.sizeOf0
  v0 := Tryz.zeroValue0
  i0 := by kernel_rfl
  t3 := Tryz.underlying3
  a3 := Tryz.isAgg3
  z3 := Tryz.sizeOf3
  v3 := Tryz.zeroValue3
  i3 := by kernel_rfl
  t4 := Tryz.underlying4
  a4 := Tryz.isAgg4
  z4 := Tryz.sizeOf4
  v4 := Tryz.zeroValue4
  i4 := by kernel_rfl
  t5 := Tryz.underlying5
  a5 := Tryz.isAgg5
  z5 := Tryz.sizeOf5
  v5 := Tryz.zeroValue5
  i5 := by kernel_rfl
  t9 := Tryz.underlying9
  a9 := Tryz.isAgg9
  z9 := Tryz.sizeOf9
  v9 := Tryz.zeroValue9
  i9 := by kernel_rfl
  t20 := Tryz.underlying20
  a20 := Tryz.isAgg20
  z20 := Tryz.sizeOf20
  v20 := Tryz.zeroValue20
  i20 := by kernel_rfl
  t21 := Tryz.underlying21
  a21 := Tryz.isAgg21
  z21 := Tryz.sizeOf21
  v21 := Tryz.zeroValue21
  i21 := by kernel_rfl
  t22 := Tryz.underlying58
  a22 := Tryz.isAgg58
  z22 := Tryz.sizeOf58
  v22 := Tryz.zeroValue58
  i22 := by kernel_rfl
  t24 := Tryz.underlying184
  a24 := Tryz.isAgg184
  z24 := Tryz.sizeOf184
  v24 := Tryz.zeroValue184
  i24 := by kernel_rfl
  t26 := Tryz.underlying186
  a26 := Tryz.isAgg186
  z26 := Tryz.sizeOf186
  v26 := Tryz.zeroValue186
  i26 := by kernel_rfl
  t28 := Tryz.underlying37
  a28 := Tryz.isAgg37
  z28 := Tryz.sizeOf37
  v28 := Tryz.zeroValue37
  i28 := by kernel_rfl
  t31 := Tryz.underlying188
  a31 := Tryz.isAgg188
  z31 := Tryz.sizeOf188
  v31 := Tryz.zeroValue188
  i31 := by kernel_rfl
  t34 := Tryz.underlying195
  a34 := Tryz.isAgg195
  z34 := Tryz.sizeOf195
  v34 := Tryz.zeroValue195
  i34 := by kernel_rfl
  t35 := Tryz.underlying200
  a35 := Tryz.isAgg200
  z35 := Tryz.sizeOf200
  v35 := Tryz.zeroValue200
  i35 := by kernel_rfl
  t37 := Tryz.underlying196
  a37 := Tryz.isAgg196
  z37 := Tryz.sizeOf196
  v37 := Tryz.zeroValue196
  i37 := by kernel_rfl
  t43 := Tryz.underlying51
  a43 := Tryz.isAgg51
  z43 := Tryz.sizeOf51
  v43 := Tryz.zeroValue51
  i43 := by kernel_rfl
  g0 := by kernel_rfl
  m0 := by kernel_rfl }
open Go.RowKit in
/-- (*bytes.Buffer).WriteRune, AT EVERY RUNE: (the number of its bytes, nil); THE BUFFER HOLDS THEM BEHIND WHAT IT HELD. The frames: as '_k'. NO WALK: the two roads as one. (LAID: no walk: one application.) -/
theorem Tryz.Buffer_WriteRune_k (B b : Nat) (bs : List Value) (r : Int) (hr0 : -2147483648 ≤ r) (hr1 : r ≤ 2147483647) (w : World) (h : Lib.IsBuffer 186 5 B b bs w) (hBw : B ≤ w.heap.size) (h1 : ∀ v ∈ bs, v.oneCell' = true) (hlim : bs.length + 4 ≤ 140737488355328) :
    Calls Tryz.prog 98 #[.pointer (some ⟨b, 0, none⟩), .int .i32 r] w fun e w' => e = .returned (.tuple #[.int .i64 (Lib.runeCells r).length, .nilIface]) ∧ Lib.IsBuffer 186 5 B b (bs ++ Lib.runeCells r) w' ∧ Below B w w' ∧ Lib.OthersKept 5 (some b) w w' := Any.Buffer_WriteRune_k Tryz.laysWr5 B b bs r hr0 hr1 w h hBw h1 hlim
end Go.Proofs

