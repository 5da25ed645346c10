/- Part. -/
import Derived.Shelf.Small.Bits
import Derived.Shelf.Strconv.ParseBool
import Derived.Shelf.Strconv.Itoa0
import Derived.Shelf.Strconv.ParseIntEmpty
import Derived.Shelf.LaysM
import Derived.Shelf.Strconv.Clone
import Derived.Shelf.Strconv.SyntaxError
import Derived.Shelf.LaysC
import Derived.Shelf.Strconv.ToError
import Derived.Shelf.Strconv.ParseBoolErrInner
import Derived.Shelf.Strconv.ParseBoolErr
import Derived.Shelf.Strconv.ErrVar
import Derived.Shelf.Strconv.Lower
import Derived.Shelf.Strconv.ParseUint10
import Derived.Shelf.Strconv.ParseUint10Empty
import Derived.Shelf.Strconv.ParseUint10Any
import Derived.Shelf.Strconv.ParseInt10
import Derived.Shelf.Strconv.RangeError
import Derived.Shelf.Strconv.ToErrorRange
import Derived.Shelf.Strconv.ParseUintEmpty
import Derived.Shelf.Strconv.ParseUint10b64
import Derived.Shelf.Strconv.ParseUint10b32
import Derived.Shelf.Strconv.ParseUint10b16
import Derived.Shelf.Strconv.ParseUint10b8
import Derived.Shelf.Strconv.ParseUint10At
import Derived.Shelf.Strconv.ParseInt10At64
import Derived.Shelf.Strconv.ParseInt10At32
import Derived.Shelf.Strconv.ParseInt10At16
import Derived.Shelf.Strconv.ParseInt10At8
import Derived.Shelf.Strconv.ParseInt10All
import Derived.Shelf.Strconv.ParseIntPublic10
import Derived.Shelf.Strconv.ErrVarParseInt
import Derived.Ground.GgsProg
import Derived.Shelf.GgSortFunc.Insertion
import Derived.Shelf.GgSortFunc.Small
import Derived.Shelf.GgSortFunc.InsertionK
import Derived.Shelf.GgSortFunc.SmallK
import Derived.Shelf.GgSortFunc.Tiny
import Derived.Shelf.GgSortFunc.Compose
import Derived.Shelf.GgSortFunc.LotD
import Derived.Shelf.GgSortFunc.Pivot
import Derived.Shelf.GgSortFunc.Partition
import Derived.Shelf.GgSortFunc.Pdq
import Derived.Shelf.GgSortFunc.Whole
import Derived.Shelf.Bits.Mul64
import Derived.Shelf.SlSortFunc.Xorshift
import Derived.Shelf.SlSortFuncK.ComposeK
import Derived.Shelf.SlSortFuncK.SiftDownK
import Derived.Shelf.SlSortFuncK.HeapSortK
import Derived.Shelf.SlSortFuncK.PartialInsertionK
import Derived.Shelf.SlSortFuncK.LotDK
import Derived.Shelf.SlSortFuncK.PivotK
import Derived.Shelf.SlSortFuncK.PartitionK
import Derived.Shelf.SlSortFunc.SiftDown
import Derived.Shelf.SlSortFunc.HeapSort
import Derived.Shelf.SlSortFunc.PartialInsertion
import Derived.Shelf.SlSortFuncK.PdqK
import Derived.Shelf.SlSortFuncK.WholeK
import Derived.Test.YtlblbefbbibpaaaGreatDoorProg
namespace Go.Proofs
open Go.Shelf
def Tryz.lays129_ren:Go.Shelf.Ren:=⟨fun|129=>76|n=>n,fun|53=>27|3=>3|4=>4|46=>150|5=>5|9=>9|n=>n,fun|n=>n⟩
theorem Tryz.lays129:Go.Proofs.Lays.n129 Tryz.prog Tryz.lays129_ren:={
 mixed:=by kernel_rfl
 f129:=Tryz.func76.trans (congrArg some (by kernel_rfl))
 t3:=Tryz.underlying3
 a3:=Tryz.isAgg3
 z3:=Tryz.sizeOf3
 v3:=Tryz.zeroValue3
 t4:=Tryz.underlying4
 a4:=Tryz.isAgg4
 z4:=Tryz.sizeOf4
 v4:=Tryz.zeroValue4
 t5:=Tryz.underlying5
 a5:=Tryz.isAgg5
 z5:=Tryz.sizeOf5
 v5:=Tryz.zeroValue5
 t9:=Tryz.underlying9
 a9:=Tryz.isAgg9
 z9:=Tryz.sizeOf9
 v9:=Tryz.zeroValue9
 t46:=Tryz.underlying150
 a46:=Tryz.isAgg150
 z46:=Tryz.sizeOf150
 v46:=Tryz.zeroValue150
 t53:=Tryz.underlying27
 a53:=Tryz.isAgg27
 z53:=Tryz.sizeOf27
 v53:=Tryz.zeroValue27}
theorem Tryz.bits_Len64 (x:Int) (w:World) (h0:0≤x) (h1:x≤18446744073709551615):
  Calls Tryz.prog 76 #[.int .u64 x] w fun e w'=>e= .returned (.int .i64 (Lib.bitLen x.toNat))∧w'=w:=Any.bits_Len64 Tryz.lays129 x w h0 h1
def Tryz.laysC245_ren:Go.Shelf.Ren:=⟨fun|245=>50|279=>61|280=>62|281=>63|282=>64|316=>91|171=>92|205=>87|243=>108|246=>128|283=>145|284=>146|285=>147|286=>148|129=>76|317=>153|318=>135|319=>154|320=>155|337=>158|338=>159|n=>n,fun|9=>9|3=>3|75=>94|167=>163|4=>4|168=>166|210=>200|37=>197|0=>0|127=>218|145=>214|143=>212|2=>2|171=>269|53=>27|5=>5|173=>271|212=>280|51=>175|20=>20|213=>281|46=>150|232=>288|233=>289|80=>290|n=>n,fun|15=>1|16=>2|17=>10|18=>12|19=>13|n=>n⟩
theorem Tryz.laysC245:Go.Proofs.LaysC.n245 Tryz.prog Tryz.laysC245_ren:={
 mixed:=by kernel_rfl
 f129:=Tryz.func76.trans (congrArg some (by kernel_rfl))
 f171:=Tryz.func92.trans (congrArg some (by kernel_rfl))
 f205:=Tryz.func87.trans (congrArg some (by kernel_rfl))
 f243:=Tryz.func108.trans (congrArg some (by kernel_rfl))
 f245:=Tryz.func50.trans (congrArg some (by kernel_rfl))
 f246:=Tryz.func128.trans (congrArg some (by kernel_rfl))
 f279:=Tryz.func61.trans (congrArg some (by kernel_rfl))
 f280:=Tryz.func62.trans (congrArg some (by kernel_rfl))
 f281:=Tryz.func63.trans (congrArg some (by kernel_rfl))
 f282:=Tryz.func64.trans (congrArg some (by kernel_rfl))
 f283:=Tryz.func145.trans (congrArg some (by kernel_rfl))
 f284:=Tryz.func146.trans (congrArg some (by kernel_rfl))
 f285:=Tryz.func147.trans (congrArg some (by kernel_rfl))
 f286:=Tryz.func148.trans (congrArg some (by kernel_rfl))
 f316:=Tryz.func91.trans (congrArg some (by kernel_rfl))
 f317:=Tryz.func153.trans (congrArg some (by kernel_rfl))
 f318:=Tryz.func135.trans (congrArg some (by kernel_rfl))
 f319:=Tryz.func154.trans (congrArg some (by kernel_rfl))
 f320:=Tryz.func155.trans (congrArg some (by kernel_rfl))
 f337:=Tryz.func158.trans (congrArg some (by kernel_rfl))
 f338:=Tryz.func159.trans (congrArg some (by kernel_rfl))
 t0:=Tryz.underlying0
 a0:=Tryz.isAgg0
 z0:=Tryz.sizeOf0
 v0:=Tryz.zeroValue0
 t2:=Tryz.underlying2
 a2:=Tryz.isAgg2
 z2:=Tryz.sizeOf2
 v2:=Tryz.zeroValue2
 t3:=Tryz.underlying3
 a3:=Tryz.isAgg3
 z3:=Tryz.sizeOf3
 v3:=Tryz.zeroValue3
 t4:=Tryz.underlying4
 a4:=Tryz.isAgg4
 z4:=Tryz.sizeOf4
 v4:=Tryz.zeroValue4
 t5:=Tryz.underlying5
 a5:=Tryz.isAgg5
 z5:=Tryz.sizeOf5
 v5:=Tryz.zeroValue5
 t9:=Tryz.underlying9
 a9:=Tryz.isAgg9
 z9:=Tryz.sizeOf9
 v9:=Tryz.zeroValue9
 t20:=Tryz.underlying20
 a20:=Tryz.isAgg20
 z20:=Tryz.sizeOf20
 v20:=Tryz.zeroValue20
 t37:=Tryz.underlying197
 a37:=Tryz.isAgg197
 z37:=Tryz.sizeOf197
 v37:=Tryz.zeroValue197
 t46:=Tryz.underlying150
 a46:=Tryz.isAgg150
 z46:=Tryz.sizeOf150
 v46:=Tryz.zeroValue150
 t51:=Tryz.underlying175
 a51:=Tryz.isAgg175
 z51:=Tryz.sizeOf175
 v51:=Tryz.zeroValue175
 t53:=Tryz.underlying27
 a53:=Tryz.isAgg27
 z53:=Tryz.sizeOf27
 v53:=Tryz.zeroValue27
 t75:=Tryz.underlying94
 a75:=Tryz.isAgg94
 z75:=Tryz.sizeOf94
 v75:=Tryz.zeroValue94
 t127:=Tryz.underlying218
 a127:=Tryz.isAgg218
 z127:=Tryz.sizeOf218
 v127:=Tryz.zeroValue218
 t143:=Tryz.underlying212
 a143:=Tryz.isAgg212
 z143:=Tryz.sizeOf212
 v143:=Tryz.zeroValue212
 t145:=Tryz.underlying214
 a145:=Tryz.isAgg214
 z145:=Tryz.sizeOf214
 v145:=Tryz.zeroValue214
 t167:=Tryz.underlying163
 a167:=Tryz.isAgg163
 z167:=Tryz.sizeOf163
 v167:=Tryz.zeroValue163
 t168:=Tryz.underlying166
 a168:=Tryz.isAgg166
 z168:=Tryz.sizeOf166
 v168:=Tryz.zeroValue166
 t171:=Tryz.underlying269
 a171:=Tryz.isAgg269
 z171:=Tryz.sizeOf269
 v171:=Tryz.zeroValue269
 t173:=Tryz.underlying271
 a173:=Tryz.isAgg271
 z173:=Tryz.sizeOf271
 v173:=Tryz.zeroValue271
 t210:=Tryz.underlying200
 a210:=Tryz.isAgg200
 z210:=Tryz.sizeOf200
 v210:=Tryz.zeroValue200
 t212:=Tryz.underlying280
 a212:=Tryz.isAgg280
 z212:=Tryz.sizeOf280
 v212:=Tryz.zeroValue280
 t213:=Tryz.underlying281
 a213:=Tryz.isAgg281
 z213:=Tryz.sizeOf281
 t232:=Tryz.underlying288
 a232:=Tryz.isAgg288
 z232:=Tryz.sizeOf288
 v232:=Tryz.zeroValue288
 t233:=Tryz.underlying289
 a233:=Tryz.isAgg289
 z233:=Tryz.sizeOf289
 v233:=Tryz.zeroValue289
 g15:=by kernel_rfl
 g16:=by kernel_rfl
 g17:=by kernel_rfl
 g18:=by kernel_rfl
 g19:=by kernel_rfl
 t80:=Tryz.underlying290
 a80:=Tryz.isAgg290
 z80:=Tryz.sizeOf290
 v80:=Tryz.zeroValue290
 i0:=by kernel_rfl
 i2:=by kernel_rfl
 i3:=by kernel_rfl
 i4:=by kernel_rfl
 i5:=by kernel_rfl
 i9:=by kernel_rfl
 i20:=by kernel_rfl
 i37:=by kernel_rfl
 i46:=by kernel_rfl
 i51:=by kernel_rfl
 i53:=by kernel_rfl
 i75:=by kernel_rfl
 i80:=by kernel_rfl
 i127:=by kernel_rfl
 i143:=by kernel_rfl
 i145:=by kernel_rfl
 i167:=by kernel_rfl
 i168:=by kernel_rfl
 i171:=by kernel_rfl
 i173:=by kernel_rfl
 i210:=by kernel_rfl
 i212:=by kernel_rfl
 i232:=by kernel_rfl
 i233:=by kernel_rfl
 m15:=by kernel_rfl
 m16:=by kernel_rfl
 m17:=by kernel_rfl
 m18:=by kernel_rfl
 m19:=by kernel_rfl
 c0:=by kernel_rfl
 c2:=by kernel_rfl
 c3:=by kernel_rfl
 c4:=by kernel_rfl
 c5:=by kernel_rfl
 c9:=by kernel_rfl
 c20:=by kernel_rfl
 c37:=by kernel_rfl
 c46:=by kernel_rfl
 c51:=by kernel_rfl
 c53:=by kernel_rfl
 c75:=by kernel_rfl
 c80:=by kernel_rfl
 c127:=by kernel_rfl
 c143:=by kernel_rfl
 c145:=by kernel_rfl
 c167:=by kernel_rfl
 c168:=by kernel_rfl
 c171:=by kernel_rfl
 c173:=by kernel_rfl
 c210:=by kernel_rfl
 c212:=by kernel_rfl
 c213:=by kernel_rfl
 c232:=by kernel_rfl
 c233:=by kernel_rfl}
open Go.RowKit in
/-- strconv.toError, at the inner package's ErrSyntax: 'syntaxError(fn, s)' as an error: A *NumError IN A NEW BLOCK. (LAID: no walk: one application.) -/
theorem Tryz.strconv_toError_syntax (fn s:ByteArray) (base bits:Int) (ev:Value) (w:World) (hlim:s.size≤281474976710656) (hv:w.cell? ⟨1,0,none⟩=some ev) (hev:ev= .nilIface∨∃ te pe,ev= .iface te pe):
  Calls Tryz.prog 50 #[.string fn,.string s,.int .i64 base,.int .i64 bits,.iface 163 (.int .i64 2)] w fun e w'=>∃ N,e= .returned (.iface 166 (.pointer (some ⟨N,0,none⟩)))∧w.heap.size≤N∧w'.heap[N]? =some (.cells #[.string fn,.string s,ev] 200 (0,0))∧Below w.heap.size w w':=Any.strconv_toError_syntax Tryz.laysC245 fn s base bits ev w hlim hv hev
def Tryz.laysC247_ren:Go.Shelf.Ren:=⟨fun|247=>49|287=>60|321=>89|322=>90|n=>n,fun|9=>9|3=>3|2=>2|75=>94|4=>4|167=>163|5=>5|53=>27|175=>164|46=>150|37=>197|0=>0|21=>21|80=>290|n=>n,fun|n=>n⟩
theorem Tryz.laysC247:Go.Proofs.LaysC.n247 Tryz.prog Tryz.laysC247_ren:={
 mixed:=by kernel_rfl
 f247:=Tryz.func49.trans (congrArg some (by kernel_rfl))
 f287:=Tryz.func60.trans (congrArg some (by kernel_rfl))
 f321:=Tryz.func89.trans (congrArg some (by kernel_rfl))
 f322:=Tryz.func90.trans (congrArg some (by kernel_rfl))
 t0:=Tryz.underlying0
 a0:=Tryz.isAgg0
 z0:=Tryz.sizeOf0
 v0:=Tryz.zeroValue0
 t2:=Tryz.underlying2
 a2:=Tryz.isAgg2
 z2:=Tryz.sizeOf2
 v2:=Tryz.zeroValue2
 t3:=Tryz.underlying3
 a3:=Tryz.isAgg3
 z3:=Tryz.sizeOf3
 v3:=Tryz.zeroValue3
 t4:=Tryz.underlying4
 a4:=Tryz.isAgg4
 z4:=Tryz.sizeOf4
 v4:=Tryz.zeroValue4
 t5:=Tryz.underlying5
 a5:=Tryz.isAgg5
 z5:=Tryz.sizeOf5
 v5:=Tryz.zeroValue5
 t9:=Tryz.underlying9
 a9:=Tryz.isAgg9
 z9:=Tryz.sizeOf9
 v9:=Tryz.zeroValue9
 t21:=Tryz.underlying21
 a21:=Tryz.isAgg21
 z21:=Tryz.sizeOf21
 v21:=Tryz.zeroValue21
 t37:=Tryz.underlying197
 a37:=Tryz.isAgg197
 z37:=Tryz.sizeOf197
 v37:=Tryz.zeroValue197
 t46:=Tryz.underlying150
 a46:=Tryz.isAgg150
 z46:=Tryz.sizeOf150
 v46:=Tryz.zeroValue150
 t53:=Tryz.underlying27
 a53:=Tryz.isAgg27
 z53:=Tryz.sizeOf27
 v53:=Tryz.zeroValue27
 t75:=Tryz.underlying94
 a75:=Tryz.isAgg94
 z75:=Tryz.sizeOf94
 v75:=Tryz.zeroValue94
 t167:=Tryz.underlying163
 a167:=Tryz.isAgg163
 z167:=Tryz.sizeOf163
 v167:=Tryz.zeroValue163
 t175:=Tryz.underlying164
 a175:=Tryz.isAgg164
 z175:=Tryz.sizeOf164
 v175:=Tryz.zeroValue164
 t80:=Tryz.underlying290
 a80:=Tryz.isAgg290
 z80:=Tryz.sizeOf290
 v80:=Tryz.zeroValue290
 i0:=by kernel_rfl
 i2:=by kernel_rfl
 i3:=by kernel_rfl
 i4:=by kernel_rfl
 i5:=by kernel_rfl
 i9:=by kernel_rfl
 i21:=by kernel_rfl
 i37:=by kernel_rfl
 i46:=by kernel_rfl
 i53:=by kernel_rfl
 i75:=by kernel_rfl
 i80:=by kernel_rfl
 i167:=by kernel_rfl
 i175:=by kernel_rfl
 c0:=by kernel_rfl
 c2:=by kernel_rfl
 c3:=by kernel_rfl
 c4:=by kernel_rfl
 c5:=by kernel_rfl
 c9:=by kernel_rfl
 c21:=by kernel_rfl
 c37:=by kernel_rfl
 c46:=by kernel_rfl
 c53:=by kernel_rfl
 c75:=by kernel_rfl
 c80:=by kernel_rfl
 c167:=by kernel_rfl
 c175:=by kernel_rfl}
open Go.RowKit in
/-- strconv.toError, at the inner package's ErrRange: 'rangeError(fn, s)' as an error: A *NumError IN A NEW BLOCK. (LAID: no walk: one application.) -/
theorem Tryz.strconv_toError_range (fn s:ByteArray) (base bits:Int) (ev:Value) (w:World) (hlim:s.size≤281474976710656) (hv:w.cell? ⟨2,0,none⟩=some ev) (hev:ev= .nilIface∨∃ te pe,ev= .iface te pe):
  Calls Tryz.prog 50 #[.string fn,.string s,.int .i64 base,.int .i64 bits,.iface 163 (.int .i64 1)] w fun e w'=>∃ N,e= .returned (.iface 166 (.pointer (some ⟨N,0,none⟩)))∧w.heap.size≤N∧w'.heap[N]? =some (.cells #[.string fn,.string s,ev] 200 (0,0))∧Below w.heap.size w w':=Any.strconv_toError_range Tryz.laysC245 fn s base bits ev w hlim hv hev
open Go.RowKit in
/-- internal/strconv.ParseInt(s, 10, 64), AT EVERY STRING: 'Lib.parseIntB 64' OF ITS BYTES. (LAID: no walk: one application.) -/
theorem Tryz.internal_strconv_ParseInt_10_all64 (s:ByteArray) (hmax:s.size≤9223372036854775806) (w:World):
  Calls Tryz.prog 49 #[.string s,.int .i64 10,.int .i64 64] w fun e w'=>e= .returned (Lib.intTuple 163 (Lib.intSat 64 s.data.toList) (Lib.parseIntB 64 s.data.toList))∧(w'=w∨∃ t,w'=Lib.bytesWorld w 5 t):=Any.internal_strconv_ParseInt_10_all64 Tryz.laysC247 s hmax w
end Go.Proofs
