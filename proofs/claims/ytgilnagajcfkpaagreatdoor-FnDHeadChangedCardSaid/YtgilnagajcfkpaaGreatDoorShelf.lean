import Derived.Shelf.Strings.Builder1
import Derived.Shelf.Strings.Builder2
import Derived.Shelf.Strings.OnBuilder
import Derived.Shelf.Small.Utf8
import Derived.Shelf.Small.Bits
import Derived.Shelf.Strings.BuilderF
import Derived.Shelf.Strings.BuilderK
import Derived.Shelf.Strconv.Itoa0
import Derived.Shelf.Strconv.Itoa1
import Derived.Shelf.LaysM
import Derived.Shelf.Strconv.Itoa2
import Derived.Shelf.Strconv.Itoa3
import Derived.Shelf.Strconv.Itoa4
import Derived.Shelf.Bytes.Len
import Derived.Shelf.Bytes.TryGrow
import Derived.Shelf.Bytes.GrowSliceCatch
import Derived.Shelf.Bytes.GrowSlice
import Derived.Shelf.Bytes.String
import Derived.Shelf.Bytes.Reset
import Derived.Shelf.Bytes.Bytes
import Derived.Shelf.Strconv.ParseIntEmpty
import Derived.Shelf.Strconv.Clone
import Derived.Shelf.Strconv.SyntaxError
import Derived.Shelf.LaysC
import Derived.Shelf.Strconv.ToError
import Derived.Shelf.Strconv.Lower
import Derived.Shelf.Strconv.ParseUint10
import Derived.Shelf.Strconv.ParseUint10Empty
import Derived.Shelf.Strconv.ParseUint10Any
import Derived.Shelf.Strconv.ParseInt10
import Derived.Shelf.Strconv.RangeError
import Derived.Shelf.Strconv.ToErrorRange
import Derived.Shelf.Strconv.ParseUintEmpty
import Derived.Shelf.Strconv.ParseUint10b64
import Derived.Shelf.Strconv.ParseUint10b32
import Derived.Shelf.Strconv.ParseUint10b16
import Derived.Shelf.Strconv.ParseUint10b8
import Derived.Shelf.Strconv.ParseUint10At
import Derived.Shelf.Strconv.ParseInt10At64
import Derived.Shelf.Strconv.ParseInt10At32
import Derived.Shelf.Strconv.ParseInt10At16
import Derived.Shelf.Strconv.ParseInt10At8
import Derived.Shelf.Strconv.ParseInt10All
import Derived.Shelf.Strconv.ParseIntPublic10
import Derived.Shelf.Bytes.GrowRow0Kept
import Derived.Shelf.Bytes.GrowRowKept
import Derived.Shelf.Bytes.GrowNilKept
import Derived.Shelf.Bytes.GrowKept
import Derived.Shelf.Bytes.WriteStringKept
import Derived.Shelf.Sort.Plain
import Derived.Shelf.Bytes.ResetKept
import Derived.Shelf.Bytes.WriteKept
import Derived.Shelf.Bytes.BufferK
import Derived.Shelf.Bytes.GrowRow0Own
import Derived.Shelf.Bytes.GrowRowOwn
import Derived.Shelf.Bytes.GrowNilOwn
import Derived.Shelf.Bytes.GrowOwn
import Derived.Shelf.Bytes.WriteAny
import Derived.Shelf.Bytes.LenAt
import Derived.Shelf.Bytes.StringAt
import Derived.Shelf.Bytes.TryGrowAt
import Derived.Shelf.Bytes.GrowRow0At
import Derived.Shelf.Bytes.GrowRowAt
import Derived.Shelf.Bytes.GrowNilAt
import Derived.Shelf.Bytes.GrowAt
import Derived.Shelf.Bytes.WriteAt
import Derived.Shelf.Strings.Prefix
import Derived.Shelf.Unicode.DecodeSlow
import Derived.Shelf.Strings.FieldsFuncAny
import Derived.Shelf.Bytes.SlIndexAt
import Derived.Shelf.Bytes.SlSearch0
import Derived.Shelf.Bytes.SlEqualAll
import Derived.Shelf.Bytes.Small
import Derived.Shelf.Bytes.IndexByte
import Derived.Test.YtgilnagajcfkpaaGreatDoorProg
set_option maxHeartbeats 4000000
set_option maxRecDepth 1000000
set_option linter.all false
namespace Go.Proofs
open Go.Shelf
def Tryz.lays156_ren:Go.Shelf.Ren:=⟨fun|156=>149|165=>159|166=>160|169=>51|240=>180|241=>181|276=>196|277=>197|n=>n,fun|31=>23|9=>9|3=>3|4=>4|0=>0|20=>20|72=>72|76=>117|70=>70|37=>22|75=>74|127=>139|164=>320|5=>5|80=>80|n=>n,fun|n=>n⟩
theorem Tryz.lays156:Go.Proofs.Lays.n156 Tryz.prog Tryz.lays156_ren:= {
 mixed:=by kernel_rfl
 f156:=Tryz.func149.trans (congrArg some (by kernel_rfl))
 f165:=Tryz.func159.trans (congrArg some (by kernel_rfl))
 f166:=Tryz.func160.trans (congrArg some (by kernel_rfl))
 f169:=Tryz.func51.trans (congrArg some (by kernel_rfl))
 f240:=Tryz.func180.trans (congrArg some (by kernel_rfl))
 f241:=Tryz.func181.trans (congrArg some (by kernel_rfl))
 f276:=Tryz.func196.trans (congrArg some (by kernel_rfl))
 f277:=Tryz.func197.trans (congrArg some (by kernel_rfl))
 t0:=Tryz.underlying0
 a0:=Tryz.isAgg0
 z0:=Tryz.sizeOf0
 v0:=Tryz.zeroValue0
 t3:=Tryz.underlying3
 a3:=Tryz.isAgg3
 z3:=Tryz.sizeOf3
 v3:=Tryz.zeroValue3
 t4:=Tryz.underlying4
 a4:=Tryz.isAgg4
 z4:=Tryz.sizeOf4
 v4:=Tryz.zeroValue4
 t9:=Tryz.underlying9
 a9:=Tryz.isAgg9
 z9:=Tryz.sizeOf9
 v9:=Tryz.zeroValue9
 t20:=Tryz.underlying20
 a20:=Tryz.isAgg20
 z20:=Tryz.sizeOf20
 v20:=Tryz.zeroValue20
 t31:=Tryz.underlying23
 a31:=Tryz.isAgg23
 z31:=Tryz.sizeOf23
 v31:=Tryz.zeroValue23
 t37:=Tryz.underlying22
 a37:=Tryz.isAgg22
 z37:=Tryz.sizeOf22
 v37:=Tryz.zeroValue22
 t70:=Tryz.underlying70
 a70:=Tryz.isAgg70
 z70:=Tryz.sizeOf70
 v70:=Tryz.zeroValue70
 t72:=Tryz.underlying72
 a72:=Tryz.isAgg72
 z72:=Tryz.sizeOf72
 v72:=Tryz.zeroValue72
 t75:=Tryz.underlying74
 a75:=Tryz.isAgg74
 z75:=Tryz.sizeOf74
 v75:=Tryz.zeroValue74
 t76:=Tryz.underlying117
 a76:=Tryz.isAgg117
 z76:=Tryz.sizeOf117
 v76:=Tryz.zeroValue117
 t127:=Tryz.underlying139
 a127:=Tryz.isAgg139
 z127:=Tryz.sizeOf139
 v127:=Tryz.zeroValue139
 t164:=Tryz.underlying320
 a164:=Tryz.isAgg320
 z164:=Tryz.sizeOf320
 v164:=Tryz.zeroValue320 }
theorem Tryz.Builder_Extra_156:Builder.Extra Tryz.prog Tryz.lays156_ren:= {
 sizeBuilder:=by kernel_rfl
 liesBuilder:=by kernel_rfl
 t5:=Tryz.underlying5
 a5:=Tryz.isAgg5
 z5:=Tryz.sizeOf5
 v5:=Tryz.zeroValue5
 infoByte:=by kernel_rfl
 cellsByte:=by kernel_rfl
 sizeByte:=by kernel_rfl
 neB5:=by decide }
open Go.RowKit in
theorem Tryz.strings_Join_none (a:Option Addr)(c:Nat)(sep:ByteArray)(w:World):
 Calls Tryz.prog 149 #[.slice a 0 c, .string sep] w fun e w'=>e= .returned (.string ⟨#[]⟩)∧w'=w:=Any.strings_Join_none Tryz.lays156 Tryz.Builder_Extra_156 a c sep w
open Go.RowKit in
theorem Tryz.strings_Join (bk o c:Nat)(xs:List ByteArray)(sep:ByteArray)(w:World)(hcells: ∀(j:Nat) x,xs[j]?=some x→w.cell? ⟨bk,o+j,none⟩=some (.string x))(hbk:bk<w.heap.size)(hN:xs.length≤140737488355328)(hcap:xs.length≤c)(hlen:(Lib.join (xs.map (·.data.toList)) sep.data.toList).length≤140737488355328):
 Calls Tryz.prog 149 #[.slice (some ⟨bk,o,none⟩) xs.length c, .string sep] w fun e w'=>e= .returned (.string ⟨(Lib.join (xs.map (·.data.toList)) sep.data.toList).toArray⟩)∧Below w.heap.size w w':=Any.strings_Join Tryz.lays156 Tryz.Builder_Extra_156 bk o c xs sep w hcells hbk hN hcap hlen
def Tryz.laysM173_ren:Go.Shelf.Ren:=⟨fun|173=>148|246=>158|283=>176|284=>177|285=>178|286=>179|129=>192|317=>191|318=>193|319=>194|320=>195|337=>208|338=>209|n=>n,fun|2=>2|3=>3|9=>9|4=>4|171=>305|0=>0|53=>195|37=>22|5=>5|173=>308|212=>317|51=>198|20=>20|213=>318|46=>171|232=>338|233=>339|n=>n,fun|17=>11|18=>13|19=>14|n=>n⟩
theorem Tryz.laysM173:Go.Proofs.LaysM.n173 Tryz.prog Tryz.laysM173_ren:= {
 mixed:=by kernel_rfl
 f129:=Tryz.func192.trans (congrArg some (by kernel_rfl))
 f173:=Tryz.func148.trans (congrArg some (by kernel_rfl))
 f246:=Tryz.func158.trans (congrArg some (by kernel_rfl))
 f283:=Tryz.func176.trans (congrArg some (by kernel_rfl))
 f284:=Tryz.func177.trans (congrArg some (by kernel_rfl))
 f285:=Tryz.func178.trans (congrArg some (by kernel_rfl))
 f286:=Tryz.func179.trans (congrArg some (by kernel_rfl))
 f317:=Tryz.func191.trans (congrArg some (by kernel_rfl))
 f318:=Tryz.func193.trans (congrArg some (by kernel_rfl))
 f319:=Tryz.func194.trans (congrArg some (by kernel_rfl))
 f320:=Tryz.func195.trans (congrArg some (by kernel_rfl))
 f337:=Tryz.func208.trans (congrArg some (by kernel_rfl))
 f338:=Tryz.func209.trans (congrArg some (by kernel_rfl))
 t0:=Tryz.underlying0
 a0:=Tryz.isAgg0
 z0:=Tryz.sizeOf0
 v0:=Tryz.zeroValue0
 t2:=Tryz.underlying2
 a2:=Tryz.isAgg2
 z2:=Tryz.sizeOf2
 v2:=Tryz.zeroValue2
 t3:=Tryz.underlying3
 a3:=Tryz.isAgg3
 z3:=Tryz.sizeOf3
 v3:=Tryz.zeroValue3
 t4:=Tryz.underlying4
 a4:=Tryz.isAgg4
 z4:=Tryz.sizeOf4
 v4:=Tryz.zeroValue4
 t5:=Tryz.underlying5
 a5:=Tryz.isAgg5
 z5:=Tryz.sizeOf5
 v5:=Tryz.zeroValue5
 t9:=Tryz.underlying9
 a9:=Tryz.isAgg9
 z9:=Tryz.sizeOf9
 v9:=Tryz.zeroValue9
 t20:=Tryz.underlying20
 a20:=Tryz.isAgg20
 z20:=Tryz.sizeOf20
 v20:=Tryz.zeroValue20
 t37:=Tryz.underlying22
 a37:=Tryz.isAgg22
 z37:=Tryz.sizeOf22
 v37:=Tryz.zeroValue22
 t46:=Tryz.underlying171
 a46:=Tryz.isAgg171
 z46:=Tryz.sizeOf171
 v46:=Tryz.zeroValue171
 t51:=Tryz.underlying198
 a51:=Tryz.isAgg198
 z51:=Tryz.sizeOf198
 v51:=Tryz.zeroValue198
 t53:=Tryz.underlying195
 a53:=Tryz.isAgg195
 z53:=Tryz.sizeOf195
 v53:=Tryz.zeroValue195
 t171:=Tryz.underlying305
 a171:=Tryz.isAgg305
 z171:=Tryz.sizeOf305
 v171:=Tryz.zeroValue305
 t173:=Tryz.underlying308
 a173:=Tryz.isAgg308
 z173:=Tryz.sizeOf308
 v173:=Tryz.zeroValue308
 t212:=Tryz.underlying317
 a212:=Tryz.isAgg317
 z212:=Tryz.sizeOf317
 v212:=Tryz.zeroValue317
 t213:=Tryz.underlying318
 a213:=Tryz.isAgg318
 z213:=Tryz.sizeOf318
 t232:=Tryz.underlying338
 a232:=Tryz.isAgg338
 z232:=Tryz.sizeOf338
 v232:=Tryz.zeroValue338
 t233:=Tryz.underlying339
 a233:=Tryz.isAgg339
 z233:=Tryz.sizeOf339
 v233:=Tryz.zeroValue339
 g17:=by kernel_rfl
 g18:=by kernel_rfl
 g19:=by kernel_rfl
 i0:=by kernel_rfl
 i2:=by kernel_rfl
 i3:=by kernel_rfl
 i4:=by kernel_rfl
 i5:=by kernel_rfl
 i9:=by kernel_rfl
 i20:=by kernel_rfl
 i37:=by kernel_rfl
 i46:=by kernel_rfl
 i51:=by kernel_rfl
 i53:=by kernel_rfl
 i171:=by kernel_rfl
 i173:=by kernel_rfl
 i212:=by kernel_rfl
 i232:=by kernel_rfl
 i233:=by kernel_rfl
 m17:=by kernel_rfl
 m18:=by kernel_rfl
 m19:=by kernel_rfl }
open Go.RowKit Go.Sort Go.Lib in
theorem Tryz.strconv_FormatInt_10 (n:Int)(h0: -9223372036854775808≤n)(h1:n≤9223372036854775807)(w:World)(htab:Lib.TabIs Tryz.prog w "internal/strconv.uint64pow10" .u64 Lib.pow10Tab):
 Calls Tryz.prog 148 #[.int .i64 n, .int .i64 10] w fun e w'=>e= .returned (.string ⟨(Lib.itoa n).toArray⟩)∧∃k os,w'=grow (w.drewN k) os:=Any.strconv_FormatInt_10 Tryz.laysM173 n h0 h1 w htab
def Tryz.laysM290_ren:Go.Shelf.Ren:=⟨fun|290=>249|324=>250|n=>n,fun|37=>22|3=>3|0=>0|4=>4|20=>20|75=>74|5=>5|80=>80|9=>9|n=>n,fun|14=>16|n=>n⟩
theorem Tryz.laysM290:Go.Proofs.LaysM.n290 Tryz.prog Tryz.laysM290_ren:= {
 mixed:=by kernel_rfl
 f290:=Tryz.func249.trans (congrArg some (by kernel_rfl))
 f324:=Tryz.func250.trans (congrArg some (by kernel_rfl))
 t0:=Tryz.underlying0
 a0:=Tryz.isAgg0
 z0:=Tryz.sizeOf0
 v0:=Tryz.zeroValue0
 t3:=Tryz.underlying3
 a3:=Tryz.isAgg3
 z3:=Tryz.sizeOf3
 v3:=Tryz.zeroValue3
 t4:=Tryz.underlying4
 a4:=Tryz.isAgg4
 z4:=Tryz.sizeOf4
 v4:=Tryz.zeroValue4
 t20:=Tryz.underlying20
 a20:=Tryz.isAgg20
 z20:=Tryz.sizeOf20
 v20:=Tryz.zeroValue20
 t37:=Tryz.underlying22
 a37:=Tryz.isAgg22
 z37:=Tryz.sizeOf22
 v37:=Tryz.zeroValue22
 t75:=Tryz.underlying74
 a75:=Tryz.isAgg74
 z75:=Tryz.sizeOf74
 v75:=Tryz.zeroValue74
 g14:=by kernel_rfl
 t5:=Tryz.underlying5
 a5:=Tryz.isAgg5
 z5:=Tryz.sizeOf5
 v5:=Tryz.zeroValue5
 t9:=Tryz.underlying9
 a9:=Tryz.isAgg9
 z9:=Tryz.sizeOf9
 v9:=Tryz.zeroValue9
 t80:=Tryz.underlying80
 a80:=Tryz.isAgg80
 z80:=Tryz.sizeOf80
 v80:=Tryz.zeroValue80
 i0:=by kernel_rfl
 i3:=by kernel_rfl
 i4:=by kernel_rfl
 i5:=by kernel_rfl
 i9:=by kernel_rfl
 i20:=by kernel_rfl
 i37:=by kernel_rfl
 i75:=by kernel_rfl
 i80:=by kernel_rfl
 m14:=by kernel_rfl }
open Go.RowKit in
theorem Tryz.bytes_growSlice_row (g l c n:Nat)(cur:Array Value)(w:World)(hg:w.heap[g]?=some (.cells cur 5 (0,0)))(hcs:cur.size=c)(hlc:l≤c)(hn:1≤n)(hlim:l+n≤140737488355328)(hc2:c≤140737488355328)(h1: ∀v∈cur.toList.take l,v.oneCell'=true):
 Calls Tryz.prog 249 #[.slice (some ⟨g,0,none⟩) l c, .int .i64 n] w fun e w'=> ∃cap2 cells,e= .returned (.slice (some ⟨w.heap.size,0,none⟩) l cap2)∧w'.heap[w.heap.size]?=some (.cells cells 5 (0,0))∧
  cells.size=cap2∧cells.toList.take l=cur.toList.take l∧l+n≤cap2∧cap2≤maxLen∧Below w.heap.size w w':=Any.bytes_growSlice_row Tryz.laysM290 g l c n cur w hg hcs hlc hn hlim hc2 h1
open Go.RowKit in
theorem Tryz.bytes_growSlice_nil (n:Nat)(w:World)(hn:1≤n)(hlim:n≤140737488355328):
 Calls Tryz.prog 249 #[.slice none 0 0, .int .i64 n] w fun e w'=> ∃cap2 cells,e= .returned (.slice (some ⟨w.heap.size,0,none⟩) 0 cap2)∧w'.heap[w.heap.size]?=some (.cells cells 5 (0,0))∧
  cells.size=cap2∧n≤cap2∧cap2≤maxLen∧Below w.heap.size w w':=Any.bytes_growSlice_nil Tryz.laysM290 n w hn hlim
def Tryz.laysC174_ren:Go.Shelf.Ren:=⟨fun|174=>142|247=>154|245=>155|287=>169|279=>170|280=>171|281=>172|282=>173|321=>187|322=>188|316=>189|171=>175|205=>98|243=>190|246=>158|283=>176|284=>177|285=>178|286=>179|129=>192|317=>191|318=>193|319=>194|320=>195|337=>208|338=>209|n=>n,fun|9=>9|3=>3|2=>2|75=>74|85=>128|4=>4|167=>296|5=>5|53=>195|175=>297|46=>171|168=>299|37=>22|0=>0|210=>314|21=>21|127=>139|145=>244|143=>242|171=>305|173=>308|212=>317|51=>198|20=>20|213=>318|232=>338|233=>339|80=>80|n=>n,fun|15=>9|16=>10|17=>11|18=>13|19=>14|n=>n⟩
theorem Tryz.laysC174:Go.Proofs.LaysC.n174 Tryz.prog Tryz.laysC174_ren:= {
 mixed:=by kernel_rfl
 f129:=Tryz.func192.trans (congrArg some (by kernel_rfl))
 f171:=Tryz.func175.trans (congrArg some (by kernel_rfl))
 f174:=Tryz.func142.trans (congrArg some (by kernel_rfl))
 f205:=Tryz.func98.trans (congrArg some (by kernel_rfl))
 f243:=Tryz.func190.trans (congrArg some (by kernel_rfl))
 f245:=Tryz.func155.trans (congrArg some (by kernel_rfl))
 f246:=Tryz.func158.trans (congrArg some (by kernel_rfl))
 f247:=Tryz.func154.trans (congrArg some (by kernel_rfl))
 f279:=Tryz.func170.trans (congrArg some (by kernel_rfl))
 f280:=Tryz.func171.trans (congrArg some (by kernel_rfl))
 f281:=Tryz.func172.trans (congrArg some (by kernel_rfl))
 f282:=Tryz.func173.trans (congrArg some (by kernel_rfl))
 f283:=Tryz.func176.trans (congrArg some (by kernel_rfl))
 f284:=Tryz.func177.trans (congrArg some (by kernel_rfl))
 f285:=Tryz.func178.trans (congrArg some (by kernel_rfl))
 f286:=Tryz.func179.trans (congrArg some (by kernel_rfl))
 f287:=Tryz.func169.trans (congrArg some (by kernel_rfl))
 f316:=Tryz.func189.trans (congrArg some (by kernel_rfl))
 f317:=Tryz.func191.trans (congrArg some (by kernel_rfl))
 f318:=Tryz.func193.trans (congrArg some (by kernel_rfl))
 f319:=Tryz.func194.trans (congrArg some (by kernel_rfl))
 f320:=Tryz.func195.trans (congrArg some (by kernel_rfl))
 f321:=Tryz.func187.trans (congrArg some (by kernel_rfl))
 f322:=Tryz.func188.trans (congrArg some (by kernel_rfl))
 f337:=Tryz.func208.trans (congrArg some (by kernel_rfl))
 f338:=Tryz.func209.trans (congrArg some (by kernel_rfl))
 t0:=Tryz.underlying0
 a0:=Tryz.isAgg0
 z0:=Tryz.sizeOf0
 v0:=Tryz.zeroValue0
 t2:=Tryz.underlying2
 a2:=Tryz.isAgg2
 z2:=Tryz.sizeOf2
 v2:=Tryz.zeroValue2
 t3:=Tryz.underlying3
 a3:=Tryz.isAgg3
 z3:=Tryz.sizeOf3
 v3:=Tryz.zeroValue3
 t4:=Tryz.underlying4
 a4:=Tryz.isAgg4
 z4:=Tryz.sizeOf4
 v4:=Tryz.zeroValue4
 t5:=Tryz.underlying5
 a5:=Tryz.isAgg5
 z5:=Tryz.sizeOf5
 v5:=Tryz.zeroValue5
 t9:=Tryz.underlying9
 a9:=Tryz.isAgg9
 z9:=Tryz.sizeOf9
 v9:=Tryz.zeroValue9
 t20:=Tryz.underlying20
 a20:=Tryz.isAgg20
 z20:=Tryz.sizeOf20
 v20:=Tryz.zeroValue20
 t21:=Tryz.underlying21
 a21:=Tryz.isAgg21
 z21:=Tryz.sizeOf21
 v21:=Tryz.zeroValue21
 t37:=Tryz.underlying22
 a37:=Tryz.isAgg22
 z37:=Tryz.sizeOf22
 v37:=Tryz.zeroValue22
 t46:=Tryz.underlying171
 a46:=Tryz.isAgg171
 z46:=Tryz.sizeOf171
 v46:=Tryz.zeroValue171
 t51:=Tryz.underlying198
 a51:=Tryz.isAgg198
 z51:=Tryz.sizeOf198
 v51:=Tryz.zeroValue198
 t53:=Tryz.underlying195
 a53:=Tryz.isAgg195
 z53:=Tryz.sizeOf195
 v53:=Tryz.zeroValue195
 t75:=Tryz.underlying74
 a75:=Tryz.isAgg74
 z75:=Tryz.sizeOf74
 v75:=Tryz.zeroValue74
 t85:=Tryz.underlying128
 a85:=Tryz.isAgg128
 z85:=Tryz.sizeOf128
 v85:=Tryz.zeroValue128
 t127:=Tryz.underlying139
 a127:=Tryz.isAgg139
 z127:=Tryz.sizeOf139
 v127:=Tryz.zeroValue139
 t143:=Tryz.underlying242
 a143:=Tryz.isAgg242
 z143:=Tryz.sizeOf242
 v143:=Tryz.zeroValue242
 t145:=Tryz.underlying244
 a145:=Tryz.isAgg244
 z145:=Tryz.sizeOf244
 v145:=Tryz.zeroValue244
 t167:=Tryz.underlying296
 a167:=Tryz.isAgg296
 z167:=Tryz.sizeOf296
 v167:=Tryz.zeroValue296
 t168:=Tryz.underlying299
 a168:=Tryz.isAgg299
 z168:=Tryz.sizeOf299
 v168:=Tryz.zeroValue299
 t171:=Tryz.underlying305
 a171:=Tryz.isAgg305
 z171:=Tryz.sizeOf305
 v171:=Tryz.zeroValue305
 t173:=Tryz.underlying308
 a173:=Tryz.isAgg308
 z173:=Tryz.sizeOf308
 v173:=Tryz.zeroValue308
 t175:=Tryz.underlying297
 a175:=Tryz.isAgg297
 z175:=Tryz.sizeOf297
 v175:=Tryz.zeroValue297
 t210:=Tryz.underlying314
 a210:=Tryz.isAgg314
 z210:=Tryz.sizeOf314
 v210:=Tryz.zeroValue314
 t212:=Tryz.underlying317
 a212:=Tryz.isAgg317
 z212:=Tryz.sizeOf317
 v212:=Tryz.zeroValue317
 t213:=Tryz.underlying318
 a213:=Tryz.isAgg318
 z213:=Tryz.sizeOf318
 t232:=Tryz.underlying338
 a232:=Tryz.isAgg338
 z232:=Tryz.sizeOf338
 v232:=Tryz.zeroValue338
 t233:=Tryz.underlying339
 a233:=Tryz.isAgg339
 z233:=Tryz.sizeOf339
 v233:=Tryz.zeroValue339
 g15:=by kernel_rfl
 g16:=by kernel_rfl
 g17:=by kernel_rfl
 g18:=by kernel_rfl
 g19:=by kernel_rfl
 t80:=Tryz.underlying80
 a80:=Tryz.isAgg80
 z80:=Tryz.sizeOf80
 v80:=Tryz.zeroValue80
 i0:=by kernel_rfl
 i2:=by kernel_rfl
 i3:=by kernel_rfl
 i4:=by kernel_rfl
 i5:=by kernel_rfl
 i9:=by kernel_rfl
 i20:=by kernel_rfl
 i21:=by kernel_rfl
 i37:=by kernel_rfl
 i46:=by kernel_rfl
 i51:=by kernel_rfl
 i53:=by kernel_rfl
 i75:=by kernel_rfl
 i80:=by kernel_rfl
 i85:=by kernel_rfl
 i127:=by kernel_rfl
 i143:=by kernel_rfl
 i145:=by kernel_rfl
 i167:=by kernel_rfl
 i168:=by kernel_rfl
 i171:=by kernel_rfl
 i173:=by kernel_rfl
 i175:=by kernel_rfl
 i210:=by kernel_rfl
 i212:=by kernel_rfl
 i232:=by kernel_rfl
 i233:=by kernel_rfl
 m15:=by kernel_rfl
 m16:=by kernel_rfl
 m17:=by kernel_rfl
 m18:=by kernel_rfl
 m19:=by kernel_rfl
 c0:=by kernel_rfl
 c2:=by kernel_rfl
 c3:=by kernel_rfl
 c4:=by kernel_rfl
 c5:=by kernel_rfl
 c9:=by kernel_rfl
 c20:=by kernel_rfl
 c21:=by kernel_rfl
 c37:=by kernel_rfl
 c46:=by kernel_rfl
 c51:=by kernel_rfl
 c53:=by kernel_rfl
 c75:=by kernel_rfl
 c80:=by kernel_rfl
 c85:=by kernel_rfl
 c127:=by kernel_rfl
 c143:=by kernel_rfl
 c145:=by kernel_rfl
 c167:=by kernel_rfl
 c168:=by kernel_rfl
 c171:=by kernel_rfl
 c173:=by kernel_rfl
 c175:=by kernel_rfl
 c210:=by kernel_rfl
 c212:=by kernel_rfl
 c213:=by kernel_rfl
 c232:=by kernel_rfl
 c233:=by kernel_rfl }
open Go.RowKit in
theorem Tryz.strconv_ParseInt_10_at64_ok (s:ByteArray)(hmax:s.size≤9223372036854775806)(v:Int)(h:Lib.parseIntB 64 s.data.toList= .ok v)(w:World):
 Calls Tryz.prog 142 #[.string s, .int .i64 10, .int .i64 64] w fun e w'=>e= .returned (.tuple #[.int .i64 v, .nilIface])∧(w'=w∨∃t,w'=Lib.bytesWorld w 5 t):=Any.strconv_ParseInt_10_at64_ok Tryz.laysC174 s hmax v h w
def Tryz.lays190_ren:Go.Shelf.Ren:=⟨fun|190=>161|125=>183|258=>182|128=>207|129=>192|302=>198|303=>199|304=>200|305=>201|306=>202|307=>203|308=>204|309=>205|310=>206|333=>210|329=>211|330=>212|334=>213|335=>214|336=>215|344=>216|n=>n,fun|31=>23|9=>9|3=>3|46=>171|0=>0|51=>198|53=>195|4=>4|183=>325|182=>324|131=>329|5=>5|218=>332|222=>336|228=>340|229=>341|n=>n,fun|n=>n⟩
theorem Tryz.lays190:Go.Proofs.Lays.n190 Tryz.prog Tryz.lays190_ren:= {
 mixed:=by kernel_rfl
 f125:=Tryz.func183.trans (congrArg some (by kernel_rfl))
 f128:=Tryz.func207.trans (congrArg some (by kernel_rfl))
 f129:=Tryz.func192.trans (congrArg some (by kernel_rfl))
 f190:=Tryz.func161.trans (congrArg some (by kernel_rfl))
 f258:=Tryz.func182.trans (congrArg some (by kernel_rfl))
 f302:=Tryz.func198.trans (congrArg some (by kernel_rfl))
 f303:=Tryz.func199.trans (congrArg some (by kernel_rfl))
 f304:=Tryz.func200.trans (congrArg some (by kernel_rfl))
 f305:=Tryz.func201.trans (congrArg some (by kernel_rfl))
 f306:=Tryz.func202.trans (congrArg some (by kernel_rfl))
 f307:=Tryz.func203.trans (congrArg some (by kernel_rfl))
 f308:=Tryz.func204.trans (congrArg some (by kernel_rfl))
 f309:=Tryz.func205.trans (congrArg some (by kernel_rfl))
 f310:=Tryz.func206.trans (congrArg some (by kernel_rfl))
 f329:=Tryz.func211.trans (congrArg some (by kernel_rfl))
 f330:=Tryz.func212.trans (congrArg some (by kernel_rfl))
 f333:=Tryz.func210.trans (congrArg some (by kernel_rfl))
 f334:=Tryz.func213.trans (congrArg some (by kernel_rfl))
 f335:=Tryz.func214.trans (congrArg some (by kernel_rfl))
 f336:=Tryz.func215.trans (congrArg some (by kernel_rfl))
 f344:=Tryz.func216.trans (congrArg some (by kernel_rfl))
 t0:=Tryz.underlying0
 a0:=Tryz.isAgg0
 z0:=Tryz.sizeOf0
 v0:=Tryz.zeroValue0
 t3:=Tryz.underlying3
 a3:=Tryz.isAgg3
 z3:=Tryz.sizeOf3
 v3:=Tryz.zeroValue3
 t4:=Tryz.underlying4
 a4:=Tryz.isAgg4
 z4:=Tryz.sizeOf4
 v4:=Tryz.zeroValue4
 t5:=Tryz.underlying5
 a5:=Tryz.isAgg5
 z5:=Tryz.sizeOf5
 v5:=Tryz.zeroValue5
 t9:=Tryz.underlying9
 a9:=Tryz.isAgg9
 z9:=Tryz.sizeOf9
 v9:=Tryz.zeroValue9
 t31:=Tryz.underlying23
 a31:=Tryz.isAgg23
 z31:=Tryz.sizeOf23
 v31:=Tryz.zeroValue23
 t46:=Tryz.underlying171
 a46:=Tryz.isAgg171
 z46:=Tryz.sizeOf171
 v46:=Tryz.zeroValue171
 t51:=Tryz.underlying198
 a51:=Tryz.isAgg198
 z51:=Tryz.sizeOf198
 v51:=Tryz.zeroValue198
 t53:=Tryz.underlying195
 a53:=Tryz.isAgg195
 z53:=Tryz.sizeOf195
 v53:=Tryz.zeroValue195
 t131:=Tryz.underlying329
 a131:=Tryz.isAgg329
 z131:=Tryz.sizeOf329
 v131:=Tryz.zeroValue329
 t182:=Tryz.underlying324
 a182:=Tryz.isAgg324
 z182:=Tryz.sizeOf324
 v182:=Tryz.zeroValue324
 t183:=Tryz.underlying325
 a183:=Tryz.isAgg325
 z183:=Tryz.sizeOf325
 v183:=Tryz.zeroValue325
 t218:=Tryz.underlying332
 a218:=Tryz.isAgg332
 z218:=Tryz.sizeOf332
 v218:=Tryz.zeroValue332
 t222:=Tryz.underlying336
 a222:=Tryz.isAgg336
 z222:=Tryz.sizeOf336
 v222:=Tryz.zeroValue336
 t228:=Tryz.underlying340
 a228:=Tryz.isAgg340
 z228:=Tryz.sizeOf340
 v228:=Tryz.zeroValue340
 t229:=Tryz.underlying341
 a229:=Tryz.isAgg341
 z229:=Tryz.sizeOf341
 v229:=Tryz.zeroValue341 }
open Go.Sort Go.RowKit in
theorem Tryz.slices_Sort_string (blk off cap:Nat)(ss:List (List UInt8))(w:World)(hH:Holds encStr w blk off ss.toArray)(hblk:blk<w.heap.size)(hsz:ss.length<4611686018427387904):
 Calls Tryz.prog 161 #[.slice (some ⟨blk,off,none⟩) ss.length cap] w fun e w'=>
  e= .returned (.tuple #[])∧∃n os,w'=grow (putRow encStr (Sort.ahead w n) blk off (ss.mergeSort fun x y=>decide (x≤y)).toArray) os:=Any.slices_Sort_string Tryz.lays190 blk off cap ss w hH hblk hsz
def Tryz.lays229_ren:Go.Shelf.Ren:=⟨fun|229=>259|n=>n,fun|9=>9|40=>241|31=>23|152=>367|3=>3|0=>0|4=>4|21=>21|154=>369|n=>n,fun|n=>n⟩
theorem Tryz.lays229:Go.Proofs.Lays.n229 Tryz.prog Tryz.lays229_ren:= {
 mixed:=by kernel_rfl
 f229:=Tryz.func259.trans (congrArg some (by kernel_rfl))
 t0:=Tryz.underlying0
 a0:=Tryz.isAgg0
 z0:=Tryz.sizeOf0
 v0:=Tryz.zeroValue0
 t3:=Tryz.underlying3
 a3:=Tryz.isAgg3
 z3:=Tryz.sizeOf3
 v3:=Tryz.zeroValue3
 t4:=Tryz.underlying4
 a4:=Tryz.isAgg4
 z4:=Tryz.sizeOf4
 v4:=Tryz.zeroValue4
 t9:=Tryz.underlying9
 a9:=Tryz.isAgg9
 z9:=Tryz.sizeOf9
 v9:=Tryz.zeroValue9
 t21:=Tryz.underlying21
 a21:=Tryz.isAgg21
 z21:=Tryz.sizeOf21
 v21:=Tryz.zeroValue21
 t31:=Tryz.underlying23
 a31:=Tryz.isAgg23
 z31:=Tryz.sizeOf23
 v31:=Tryz.zeroValue23
 t40:=Tryz.underlying241
 a40:=Tryz.isAgg241
 z40:=Tryz.sizeOf241
 v40:=Tryz.zeroValue241
 t152:=Tryz.underlying367
 a152:=Tryz.isAgg367
 z152:=Tryz.sizeOf367
 v152:=Tryz.zeroValue367
 t154:=Tryz.underlying369
 a154:=Tryz.isAgg369
 z154:=Tryz.sizeOf369
 v154:=Tryz.zeroValue369 }
open Go.RowKit Go.Lib in
theorem Tryz.strings_FieldsFunc_runes (g:Nat)(lb:Array Value)(eg: ∀args w,(callFunc g args).run Tryz.prog w= .ok (.enter g args) w)(p:Nat→Bool)(s:ByteArray)(w:World)(hs:s.size≤4294967296)(hp:PredAtRunes Tryz.prog g lb p w):
 Calls Tryz.prog 259 #[.string s, .func (.func g) #[] lb] w fun e w'=> ∃A,e= .returned (.slice (some ⟨A,0,none⟩) (Lib.goFieldsP p s).length (Lib.goFieldsP p s).length)∧w.heap.size≤A∧
  w'.ownsRow w.heap.size 9 1 (.slice (some ⟨A,0,none⟩) (Lib.goFieldsP p s).length (Lib.goFieldsP p s).length) (Lib.goFieldsP p s).length ((Lib.goFieldsP p s).map Value.string)∧Below w.heap.size w w':=Any.strings_FieldsFunc_runes Tryz.lays229 g lb eg p s w hs hp (by kernel_rfl) (by kernel_rfl)
def Tryz.lays187_ren:Go.Shelf.Ren:=⟨fun|187=>165|255=>186|n=>n,fun|37=>22|5=>5|3=>3|n=>n,fun|n=>n⟩
theorem Tryz.lays187:Go.Proofs.Lays.n187 Tryz.prog Tryz.lays187_ren:= {
 mixed:=by kernel_rfl
 f187:=Tryz.func165.trans (congrArg some (by kernel_rfl))
 f255:=Tryz.func186.trans (congrArg some (by kernel_rfl))
 t3:=Tryz.underlying3
 a3:=Tryz.isAgg3
 z3:=Tryz.sizeOf3
 v3:=Tryz.zeroValue3
 t5:=Tryz.underlying5
 a5:=Tryz.isAgg5
 z5:=Tryz.sizeOf5
 v5:=Tryz.zeroValue5
 t37:=Tryz.underlying22
 a37:=Tryz.isAgg22
 z37:=Tryz.sizeOf22
 v37:=Tryz.zeroValue22 }
open Go.RowKit Go.Lib in
theorem Tryz.bytes_IndexByte_at (a:Addr)(n c:Nat)(xs:List Int)(cv:Int)(w:World)(hx:xs.length=n)(hc: ∀i,i<n→w.cell? (a.add i)=some (.int .u8 (xs.getD i 0))):
 Calls Tryz.prog 165 #[.slice (some a) n c, .int .u8 cv] w fun e w'=>e= .returned (.int .i64 (Lib.indexByte (Lib.bytesOf xs) cv.toNat.toUInt8))∧w'=w:=Any.bytes_IndexByte_at Tryz.lays187 a n c xs cv w hx hc
theorem Tryz.bytes_IndexByte (b o n c:Nat)(xs:List Int)(cv:Int)(w:World)(hx:xs.length=n)(hc: ∀i,i<n→w.cell? ⟨b,o+i,none⟩=some (.int .u8 (xs.getD i 0))):
 Calls Tryz.prog 165 #[.slice (some ⟨b,o,none⟩) n c, .int .u8 cv] w fun e w'=>e= .returned (.int .i64 (Lib.indexByte (Lib.bytesOf xs) cv.toNat.toUInt8))∧w'=w:=Any.bytes_IndexByte Tryz.lays187 b o n c xs cv w hx hc
end Go.Proofs
