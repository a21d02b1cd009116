/- A part of the proof of the theorem of this claim: Shelf. No condition of its own. -/
import Derived.Shelf.Strings.Builder1
import Derived.Shelf.Strings.Builder2
import Derived.Shelf.Strings.OnBuilder
import Derived.Shelf.Strings.BuilderF
import Derived.Shelf.Strings.BuilderK
import Derived.Shelf.Utf8.AppendRune
import Derived.Shelf.Utf8.AppendRunePlain
import Derived.Shelf.Strings.Builder2Cap
import Derived.Shelf.LaysM
import Derived.Shelf.Bytes.Len
import Derived.Shelf.Bytes.TryGrow
import Derived.Shelf.Bytes.GrowSliceCatch
import Derived.Shelf.Bytes.GrowSlice
import Derived.Shelf.Bytes.GrowRow0
import Derived.Shelf.Bytes.GrowNil
import Derived.Shelf.Bytes.String
import Derived.Shelf.Bytes.Reset
import Derived.Shelf.Bytes.GrowRow0Kept
import Derived.Shelf.Bytes.GrowRowKept
import Derived.Shelf.Bytes.GrowNilKept
import Derived.Shelf.Bytes.GrowKept
import Derived.Shelf.Bytes.WriteByteKept
import Derived.Shelf.Bytes.ResetKept
import Derived.Shelf.Bytes.WriteKept
import Derived.Shelf.Bytes.BufferK
import Derived.Shelf.Bytes.GrowRow0Own
import Derived.Shelf.Bytes.GrowRowOwn
import Derived.Shelf.Bytes.GrowNilOwn
import Derived.Shelf.Bytes.GrowOwn
import Derived.Ground.MzProg
import Derived.Shelf.Wr.WriteRuneAscii
import Derived.Shelf.Wr.WriteRune
import Derived.Shelf.Bytes.LenAt
import Derived.Shelf.Bytes.StringAt
import Derived.Shelf.Bytes.TryGrowAt
import Derived.Shelf.Bytes.GrowRow0At
import Derived.Shelf.Bytes.GrowNilAt
import Derived.Shelf.Strings.BuilderCap
import Derived.Test.YthgcghpcikbnkaaGreatDoorProg
set_option maxHeartbeats 16000000
set_option maxRecDepth 100000
namespace Go.Proofs
open Go.Shelf
def Tryz.lays156_ren:Go.Shelf.Ren:=⟨fun | 156=>162 | 165=>171 | 166=>172 | 169=>173 | 240=>177 | 241=>178 | 276=>179 | 277=>180 | n=>n,fun | 31=>233 | 9=>9 | 3=>3 | 4=>4 | 0=>0 | 20=>20 | 72=>297 | 76=>258 | 70=>295 | 37=>109 | 75=>32 | 127=>317 | 164=>318 | 5=>5 | 80=>105 | n=>n,fun | n=>n⟩
theorem Tryz.lays156:Go.Proofs.Lays.n156 Tryz.prog Tryz.lays156_ren:={
 mixed:=by kernel_rfl
 f156:=Tryz.func162.trans (congrArg some (by kernel_rfl))
 f165:=Tryz.func171.trans (congrArg some (by kernel_rfl))
 f166:=Tryz.func172.trans (congrArg some (by kernel_rfl))
 f169:=Tryz.func173.trans (congrArg some (by kernel_rfl))
 f240:=Tryz.func177.trans (congrArg some (by kernel_rfl))
 f241:=Tryz.func178.trans (congrArg some (by kernel_rfl))
 f276:=Tryz.func179.trans (congrArg some (by kernel_rfl))
 f277:=Tryz.func180.trans (congrArg some (by kernel_rfl))
 t0:=Tryz.underlying0
 a0:=Tryz.isAgg0
 z0:=Tryz.sizeOf0
 v0:=Tryz.zeroValue0
 t3:=Tryz.underlying3
 a3:=Tryz.isAgg3
 z3:=Tryz.sizeOf3
 v3:=Tryz.zeroValue3
 t4:=Tryz.underlying4
 a4:=Tryz.isAgg4
 z4:=Tryz.sizeOf4
 v4:=Tryz.zeroValue4
 t9:=Tryz.underlying9
 a9:=Tryz.isAgg9
 z9:=Tryz.sizeOf9
 v9:=Tryz.zeroValue9
 t20:=Tryz.underlying20
 a20:=Tryz.isAgg20
 z20:=Tryz.sizeOf20
 v20:=Tryz.zeroValue20
 t31:=Tryz.underlying233
 a31:=Tryz.isAgg233
 z31:=Tryz.sizeOf233
 v31:=Tryz.zeroValue233
 t37:=Tryz.underlying109
 a37:=Tryz.isAgg109
 z37:=Tryz.sizeOf109
 v37:=Tryz.zeroValue109
 t70:=Tryz.underlying295
 a70:=Tryz.isAgg295
 z70:=Tryz.sizeOf295
 v70:=Tryz.zeroValue295
 t72:=Tryz.underlying297
 a72:=Tryz.isAgg297
 z72:=Tryz.sizeOf297
 v72:=Tryz.zeroValue297
 t75:=Tryz.underlying32
 a75:=Tryz.isAgg32
 z75:=Tryz.sizeOf32
 v75:=Tryz.zeroValue32
 t76:=Tryz.underlying258
 a76:=Tryz.isAgg258
 z76:=Tryz.sizeOf258
 v76:=Tryz.zeroValue258
 t127:=Tryz.underlying317
 a127:=Tryz.isAgg317
 z127:=Tryz.sizeOf317
 v127:=Tryz.zeroValue317
 t164:=Tryz.underlying318
 a164:=Tryz.isAgg318
 z164:=Tryz.sizeOf318
 v164:=Tryz.zeroValue318 }
theorem Tryz.Builder_Extra_156:Builder.Extra Tryz.prog Tryz.lays156_ren:={
 sizeBuilder:=by kernel_rfl
 liesBuilder:=by kernel_rfl
 t5:=Tryz.underlying5
 a5:=Tryz.isAgg5
 z5:=Tryz.sizeOf5
 v5:=Tryz.zeroValue5
 infoByte:=by kernel_rfl
 cellsByte:=by kernel_rfl
 sizeByte:=by kernel_rfl
 neB5:=by decide }
open Go.RowKit in
theorem Tryz.strings_Join_none (a:Option Addr) (c:Nat) (sep:ByteArray) (w:World) :
 Calls Tryz.prog 162 #[.slice a 0 c,.string sep] w fun e w'=>e=.returned (.string ⟨#[]⟩)∧w'=w:=Any.strings_Join_none Tryz.lays156 Tryz.Builder_Extra_156 a c sep w
open Go.RowKit in
theorem Tryz.strings_Join (bk o c:Nat) (xs:List ByteArray) (sep:ByteArray) (w:World) (hcells:∀ (j:Nat) x,xs[j]?=some x→w.cell? ⟨bk,o+j,none⟩=some (.string x)) (hbk:bk < w.heap.size) (hN:xs.length≤140737488355328) (hcap:xs.length≤c) (hlen:(Lib.join (xs.map (·.data.toList)) sep.data.toList).length≤140737488355328) :
 Calls Tryz.prog 162 #[.slice (some ⟨bk,o,none⟩) xs.length c,.string sep] w fun e w'=>e=.returned (.string ⟨(Lib.join (xs.map (·.data.toList)) sep.data.toList).toArray⟩)∧Below w.heap.size w w':=Any.strings_Join Tryz.lays156 Tryz.Builder_Extra_156 bk o c xs sep w hcells hbk hN hcap hlen
def Tryz.laysM182_ren:Go.Shelf.Ren:=⟨fun | 182=>149 | n=>n,fun | 130=>271 | 9=>9 | 4=>4 | 0=>0 | 93=>263 | 37=>109 | 3=>3 | 91=>261 | 5=>5 | n=>n,fun | n=>n⟩
theorem Tryz.laysM182:Go.Proofs.LaysM.n182 Tryz.prog Tryz.laysM182_ren:={
 mixed:=by kernel_rfl
 f182:=Tryz.func149.trans (congrArg some (by kernel_rfl))
 t0:=Tryz.underlying0
 a0:=Tryz.isAgg0
 z0:=Tryz.sizeOf0
 v0:=Tryz.zeroValue0
 t3:=Tryz.underlying3
 a3:=Tryz.isAgg3
 z3:=Tryz.sizeOf3
 v3:=Tryz.zeroValue3
 t4:=Tryz.underlying4
 a4:=Tryz.isAgg4
 z4:=Tryz.sizeOf4
 v4:=Tryz.zeroValue4
 t9:=Tryz.underlying9
 a9:=Tryz.isAgg9
 z9:=Tryz.sizeOf9
 v9:=Tryz.zeroValue9
 t37:=Tryz.underlying109
 a37:=Tryz.isAgg109
 z37:=Tryz.sizeOf109
 v37:=Tryz.zeroValue109
 t93:=Tryz.underlying263
 a93:=Tryz.isAgg263
 z93:=Tryz.sizeOf263
 v93:=Tryz.zeroValue263
 t130:=Tryz.underlying271
 a130:=Tryz.isAgg271
 z130:=Tryz.sizeOf271
 v130:=Tryz.zeroValue271
 t5:=Tryz.underlying5
 a5:=Tryz.isAgg5
 z5:=Tryz.sizeOf5
 v5:=Tryz.zeroValue5
 t91:=Tryz.underlying261
 a91:=Tryz.isAgg261
 z91:=Tryz.sizeOf261
 v91:=Tryz.zeroValue261
 i0:=by kernel_rfl
 i3:=by kernel_rfl
 i4:=by kernel_rfl
 i5:=by kernel_rfl
 i9:=by kernel_rfl
 i37:=by kernel_rfl
 i91:=by kernel_rfl
 i93:=by kernel_rfl
 i130:=by kernel_rfl }
open Go.RowKit in
theorem Tryz.Buffer_String (B b:Nat) (l:List UInt8) (w:World) (h:Lib.IsBuffer 263 5 B b (Lib.byteCells l) w) :
 Calls Tryz.prog 149 #[.pointer (some ⟨b,0,none⟩)] w fun e w'=>e=.returned (.string ⟨l.toArray⟩)∧∃ n,w'=w.drewN n:=Any.Buffer_String Tryz.laysM182 B b l w h
def Tryz.laysM180_ren:Go.Shelf.Ren:=⟨fun | 180=>147 | 251=>157 | 252=>158 | 181=>168 | 184=>169 | 290=>170 | 324=>176 | n=>n,fun | 130=>271 | 37=>109 | 3=>3 | 75=>32 | 0=>0 | 93=>263 | 91=>261 | 131=>272 | 4=>4 | 20=>20 | 5=>5 | 80=>105 | 9=>9 | n=>n,fun | 14=>2 | n=>n⟩
theorem Tryz.laysM180:Go.Proofs.LaysM.n180 Tryz.prog Tryz.laysM180_ren:={
 mixed:=by kernel_rfl
 f180:=Tryz.func147.trans (congrArg some (by kernel_rfl))
 f181:=Tryz.func168.trans (congrArg some (by kernel_rfl))
 f184:=Tryz.func169.trans (congrArg some (by kernel_rfl))
 f251:=Tryz.func157.trans (congrArg some (by kernel_rfl))
 f252:=Tryz.func158.trans (congrArg some (by kernel_rfl))
 f290:=Tryz.func170.trans (congrArg some (by kernel_rfl))
 f324:=Tryz.func176.trans (congrArg some (by kernel_rfl))
 t0:=Tryz.underlying0
 a0:=Tryz.isAgg0
 z0:=Tryz.sizeOf0
 v0:=Tryz.zeroValue0
 t3:=Tryz.underlying3
 a3:=Tryz.isAgg3
 z3:=Tryz.sizeOf3
 v3:=Tryz.zeroValue3
 t4:=Tryz.underlying4
 a4:=Tryz.isAgg4
 z4:=Tryz.sizeOf4
 v4:=Tryz.zeroValue4
 t20:=Tryz.underlying20
 a20:=Tryz.isAgg20
 z20:=Tryz.sizeOf20
 v20:=Tryz.zeroValue20
 t37:=Tryz.underlying109
 a37:=Tryz.isAgg109
 z37:=Tryz.sizeOf109
 v37:=Tryz.zeroValue109
 t75:=Tryz.underlying32
 a75:=Tryz.isAgg32
 z75:=Tryz.sizeOf32
 v75:=Tryz.zeroValue32
 t91:=Tryz.underlying261
 a91:=Tryz.isAgg261
 z91:=Tryz.sizeOf261
 v91:=Tryz.zeroValue261
 t93:=Tryz.underlying263
 a93:=Tryz.isAgg263
 z93:=Tryz.sizeOf263
 v93:=Tryz.zeroValue263
 t130:=Tryz.underlying271
 a130:=Tryz.isAgg271
 z130:=Tryz.sizeOf271
 v130:=Tryz.zeroValue271
 t131:=Tryz.underlying272
 a131:=Tryz.isAgg272
 z131:=Tryz.sizeOf272
 v131:=Tryz.zeroValue272
 g14:=by kernel_rfl
 t5:=Tryz.underlying5
 a5:=Tryz.isAgg5
 z5:=Tryz.sizeOf5
 v5:=Tryz.zeroValue5
 t9:=Tryz.underlying9
 a9:=Tryz.isAgg9
 z9:=Tryz.sizeOf9
 v9:=Tryz.zeroValue9
 t80:=Tryz.underlying105
 a80:=Tryz.isAgg105
 z80:=Tryz.sizeOf105
 v80:=Tryz.zeroValue105
 i0:=by kernel_rfl
 i3:=by kernel_rfl
 i4:=by kernel_rfl
 i5:=by kernel_rfl
 i9:=by kernel_rfl
 i20:=by kernel_rfl
 i37:=by kernel_rfl
 i75:=by kernel_rfl
 i80:=by kernel_rfl
 i91:=by kernel_rfl
 i93:=by kernel_rfl
 i130:=by kernel_rfl
 i131:=by kernel_rfl
 m14:=by kernel_rfl }
open Go.RowKit in
theorem Tryz.Buffer_Write_k (B b:Nat) (bs cs:List Value) (a:Addr) (n c:Nat) (w:World) (h:Lib.IsBuffer 263 5 B b bs w) (hBw:B≤w.heap.size) (h1:∀ v ∈ bs,v.oneCell'=true) (hn:cs.length=n) (haB:a.block < B) (hsrc:∀ j v,cs[j]?=some v→w.cell? (a.add j)=some v) (h1c:∀ v ∈ cs,v.oneCell'=true) (hlim:bs.length+n≤140737488355328) :
 Calls Tryz.prog 147 #[.pointer (some ⟨b,0,none⟩),.slice (some a) n c] w fun e w'=>e=.returned (.tuple #[.int .i64 n,.nilIface])∧Lib.IsBuffer 263 5 B b (bs++cs) w'∧Below B w w'∧Lib.OthersKept 5 (some b) w w':=Any.Buffer_Write_k Tryz.laysM180 B b bs cs a n c w h hBw h1 hn haB hsrc h1c hlim
def Tryz.laysWr5_ren:Go.Shelf.Ren:=⟨fun | 5=>150 | 7=>163 | 8=>157 | 9=>158 | 10=>164 | 11=>168 | 12=>169 | 13=>170 | 14=>174 | 15=>176 | n=>n,fun | 34=>271 | 21=>21 | 3=>3 | 28=>32 | 35=>275 | 4=>4 | 5=>5 | 0=>0 | 26=>263 | 24=>261 | 37=>272 | 22=>109 | 43=>167 | 20=>20 | 31=>105 | 9=>9 | n=>n,fun | 0=>2 | n=>n⟩
theorem Tryz.laysWr5:Go.Proofs.LaysWr.n5 Tryz.prog Tryz.laysWr5_ren:={
 mixed:=by kernel_rfl
 f5:=Tryz.func150.trans (congrArg some (by kernel_rfl))
 f7:=Tryz.func163.trans (congrArg some (by kernel_rfl))
 f8:=Tryz.func157.trans (congrArg some (by kernel_rfl))
 f9:=Tryz.func158.trans (congrArg some (by kernel_rfl))
 f10:=Tryz.func164.trans (congrArg some (by kernel_rfl))
 f11:=Tryz.func168.trans (congrArg some (by kernel_rfl))
 f12:=Tryz.func169.trans (congrArg some (by kernel_rfl))
 f13:=Tryz.func170.trans (congrArg some (by kernel_rfl))
 f14:=Tryz.func174.trans (congrArg some (by kernel_rfl))
 f15:=Tryz.func176.trans (congrArg some (by kernel_rfl))
 t0:=Tryz.underlying0
 a0:=Tryz.isAgg0
 z0:=Tryz.sizeOf0
 v0:=Tryz.zeroValue0
 i0:=by kernel_rfl
 t3:=Tryz.underlying3
 a3:=Tryz.isAgg3
 z3:=Tryz.sizeOf3
 v3:=Tryz.zeroValue3
 i3:=by kernel_rfl
 t4:=Tryz.underlying4
 a4:=Tryz.isAgg4
 z4:=Tryz.sizeOf4
 v4:=Tryz.zeroValue4
 i4:=by kernel_rfl
 t5:=Tryz.underlying5
 a5:=Tryz.isAgg5
 z5:=Tryz.sizeOf5
 v5:=Tryz.zeroValue5
 i5:=by kernel_rfl
 t9:=Tryz.underlying9
 a9:=Tryz.isAgg9
 z9:=Tryz.sizeOf9
 v9:=Tryz.zeroValue9
 i9:=by kernel_rfl
 t20:=Tryz.underlying20
 a20:=Tryz.isAgg20
 z20:=Tryz.sizeOf20
 v20:=Tryz.zeroValue20
 i20:=by kernel_rfl
 t21:=Tryz.underlying21
 a21:=Tryz.isAgg21
 z21:=Tryz.sizeOf21
 v21:=Tryz.zeroValue21
 i21:=by kernel_rfl
 t22:=Tryz.underlying109
 a22:=Tryz.isAgg109
 z22:=Tryz.sizeOf109
 v22:=Tryz.zeroValue109
 i22:=by kernel_rfl
 t24:=Tryz.underlying261
 a24:=Tryz.isAgg261
 z24:=Tryz.sizeOf261
 v24:=Tryz.zeroValue261
 i24:=by kernel_rfl
 t26:=Tryz.underlying263
 a26:=Tryz.isAgg263
 z26:=Tryz.sizeOf263
 v26:=Tryz.zeroValue263
 i26:=by kernel_rfl
 t28:=Tryz.underlying32
 a28:=Tryz.isAgg32
 z28:=Tryz.sizeOf32
 v28:=Tryz.zeroValue32
 i28:=by kernel_rfl
 t31:=Tryz.underlying105
 a31:=Tryz.isAgg105
 z31:=Tryz.sizeOf105
 v31:=Tryz.zeroValue105
 i31:=by kernel_rfl
 t34:=Tryz.underlying271
 a34:=Tryz.isAgg271
 z34:=Tryz.sizeOf271
 v34:=Tryz.zeroValue271
 i34:=by kernel_rfl
 t35:=Tryz.underlying275
 a35:=Tryz.isAgg275
 z35:=Tryz.sizeOf275
 v35:=Tryz.zeroValue275
 i35:=by kernel_rfl
 t37:=Tryz.underlying272
 a37:=Tryz.isAgg272
 z37:=Tryz.sizeOf272
 v37:=Tryz.zeroValue272
 i37:=by kernel_rfl
 t43:=Tryz.underlying167
 a43:=Tryz.isAgg167
 z43:=Tryz.sizeOf167
 v43:=Tryz.zeroValue167
 i43:=by kernel_rfl
 g0:=by kernel_rfl
 m0:=by kernel_rfl }
open Go.RowKit in
theorem Tryz.Buffer_WriteRune_k (B b:Nat) (bs:List Value) (r:Int) (hr0:-2147483648≤r) (hr1:r≤2147483647) (w:World) (h:Lib.IsBuffer 263 5 B b bs w) (hBw:B≤w.heap.size) (h1:∀ v ∈ bs,v.oneCell'=true) (hlim:bs.length+4≤140737488355328) :
 Calls Tryz.prog 150 #[.pointer (some ⟨b,0,none⟩),.int .i32 r] w fun e w'=>e=.returned (.tuple #[.int .i64 (Lib.runeCells r).length,.nilIface])∧Lib.IsBuffer 263 5 B b (bs++Lib.runeCells r) w'∧Below B w w'∧Lib.OthersKept 5 (some b) w w':=Any.Buffer_WriteRune_k Tryz.laysWr5 B b bs r hr0 hr1 w h hBw h1 hlim
end Go.Proofs
