/- Lemmas for FnVtSigsEntry; no conditions. -/
import Derived.Test.YtbnbadcnfchdhaaGreatDoorP01
import Derived.Shelf.Small.Bits
import Derived.Shelf.Utf8.AppendRune
import Derived.Shelf.Strconv.Itoa0
import Derived.Shelf.Strconv.Itoa1
import Derived.Shelf.LaysM
import Derived.Shelf.Strconv.Itoa2
import Derived.Shelf.Strconv.Itoa3
import Derived.Shelf.Bytes.Len
import Derived.Shelf.Bytes.TryGrow
import Derived.Shelf.Bytes.GrowSliceCatch
import Derived.Shelf.Bytes.GrowSlice
import Derived.Shelf.Bytes.GrowRow0
import Derived.Shelf.Bytes.GrowRow
import Derived.Shelf.Bytes.GrowNil
import Derived.Shelf.Bytes.Grow
import Derived.Shelf.Bytes.WriteByte
import Derived.Shelf.Bytes.String
import Derived.Shelf.Bytes.Reset
import Derived.Shelf.Strconv.Clone
import Derived.Shelf.Strconv.SyntaxError
import Derived.Shelf.LaysC
import Derived.Shelf.Strconv.ToError
import Derived.Shelf.Strconv.Lower
import Derived.Shelf.Strconv.ParseUint10
import Derived.Shelf.Strconv.ParseUint10Empty
import Derived.Shelf.Strconv.ParseUint10Any
import Derived.Shelf.Strconv.RangeError
import Derived.Shelf.Strconv.ToErrorRange
import Derived.Shelf.Sort.Plain
import Derived.Shelf.Bytes.ResetKept
import Derived.Shelf.Bytes.LenAt
import Derived.Shelf.Unicode.Decode
import Derived.Shelf.Bits.Mul64
import Derived.Shelf.Unicode.DecodeSlow
import Derived.Shelf.Unicode.DecodeAny
import Derived.Shelf.Slices.In.SortNone
import Derived.Shelf.Slices.In.SortNone2
import Derived.WalkMore
import Derived.Laws.FloatBits
import Derived.Outline
set_option maxRecDepth 100000
set_option maxHeartbeats 16000000
set_option linter.all false
namespace Go.Proofs
section
open Go.Shelf
def Tryz.lays129_ren:Go.Shelf.Ren:=⟨fun|129=>90|n=>n,fun|53=>23|3=>3|4=>4|46=>91|5=>5|9=>9|n=>n,fun|n=>n⟩
theorem Tryz.lays129:Go.Proofs.Lays.n129 Tryz.prog Tryz.lays129_ren:={
 mixed:=Kr
 f129:=Tryz.func90.trans (congrArg some Kr)
 t3:=Tryz.underlying3
 a3:=Tryz.isAgg3
 z3:=Tryz.sizeOf3
 v3:=Tryz.zeroValue3
 t4:=Tryz.underlying4
 a4:=Tryz.isAgg4
 z4:=Tryz.sizeOf4
 v4:=Tryz.zeroValue4
 t5:=Tryz.underlying5
 a5:=Tryz.isAgg5
 z5:=Tryz.sizeOf5
 v5:=Tryz.zeroValue5
 t9:=Tryz.underlying9
 a9:=Tryz.isAgg9
 z9:=Tryz.sizeOf9
 v9:=Tryz.zeroValue9
 t46:=Tryz.underlying91
 a46:=Tryz.isAgg91
 z46:=Tryz.sizeOf91
 v46:=Tryz.zeroValue91
 t53:=Tryz.underlying23
 a53:=Tryz.isAgg23
 z53:=Tryz.sizeOf23
 v53:=Tryz.zeroValue23 }
theorem Tryz.bits_Len64(x:Int)(w:World)(h0:0<=x)(h1:x<=18446744073709551615) :
 Calls Tryz.prog 90 #[.int .u64 x] w λe w'=>e=.returned (.int .i64 (Lib.bitLen x.toNat))/\w'=w:=Any.bits_Len64 Tryz.lays129 x w h0 h1
def Tryz.laysM182_ren:Go.Shelf.Ren:=⟨fun|182=>125|n=>n,fun|130=>188|9=>9|4=>4|0=>0|93=>192|37=>109|3=>3|91=>190|5=>5|n=>n,fun|n=>n⟩
theorem Tryz.laysM182:Go.Proofs.LaysM.n182 Tryz.prog Tryz.laysM182_ren:={
 mixed:=Kr
 f182:=Tryz.func125.trans (congrArg some Kr)
 t0:=Tryz.underlying0
 a0:=Tryz.isAgg0
 z0:=Tryz.sizeOf0
 v0:=Tryz.zeroValue0
 t3:=Tryz.underlying3
 a3:=Tryz.isAgg3
 z3:=Tryz.sizeOf3
 v3:=Tryz.zeroValue3
 t4:=Tryz.underlying4
 a4:=Tryz.isAgg4
 z4:=Tryz.sizeOf4
 v4:=Tryz.zeroValue4
 t9:=Tryz.underlying9
 a9:=Tryz.isAgg9
 z9:=Tryz.sizeOf9
 v9:=Tryz.zeroValue9
 t37:=Tryz.underlying109
 a37:=Tryz.isAgg109
 z37:=Tryz.sizeOf109
 v37:=Tryz.zeroValue109
 t93:=Tryz.underlying192
 a93:=Tryz.isAgg192
 z93:=Tryz.sizeOf192
 v93:=Tryz.zeroValue192
 t130:=Tryz.underlying188
 a130:=Tryz.isAgg188
 z130:=Tryz.sizeOf188
 v130:=Tryz.zeroValue188
 t5:=Tryz.underlying5
 a5:=Tryz.isAgg5
 z5:=Tryz.sizeOf5
 v5:=Tryz.zeroValue5
 t91:=Tryz.underlying190
 a91:=Tryz.isAgg190
 z91:=Tryz.sizeOf190
 v91:=Tryz.zeroValue190
 i0:=Kr
 i3:=Kr
 i4:=Kr
 i5:=Kr
 i9:=Kr
 i37:=Kr
 i91:=Kr
 i93:=Kr
 i130:=by kernel_rfl }
open Go.RowKit in
theorem Tryz.Buffer_String(B b:Nat)(l:List UInt8)(w:World)(h:Lib.IsBuffer 192 5 B b (Lib.byteCells l) w) :
 Calls Tryz.prog 125 #[.pointer (some ⟨b,0,none⟩)] w λe w'=>e=.returned (.string ⟨l.toArray⟩)/\∃n,w'=w.drewN n:=Any.Buffer_String Tryz.laysM182 B b l w h
def Tryz.laysC245_ren:Go.Shelf.Ren:=⟨fun|245=>96|279=>116|280=>117|281=>118|282=>119|316=>141|171=>142|205=>70|243=>166|246=>186|283=>197|284=>198|285=>199|286=>200|129=>90|317=>203|318=>179|319=>204|320=>205|337=>206|338=>207|n=>n,fun|9=>9|3=>3|75=>59|167=>181|4=>4|168=>182|210=>208|37=>109|0=>0|127=>242|145=>149|143=>147|2=>2|171=>284|53=>23|5=>5|173=>286|212=>293|51=>142|20=>20|213=>294|46=>91|232=>295|233=>296|80=>164|n=>n,fun|15=>2|16=>3|17=>15|18=>16|19=>17|n=>n⟩
theorem Tryz.laysC245:Go.Proofs.LaysC.n245 Tryz.prog Tryz.laysC245_ren:={
 mixed:=Kr
 f129:=Tryz.func90.trans (congrArg some Kr)
 f171:=Tryz.func142.trans (congrArg some Kr)
 f205:=Tryz.func70.trans (congrArg some Kr)
 f243:=Tryz.func166.trans (congrArg some Kr)
 f245:=Tryz.func96.trans (congrArg some Kr)
 f246:=Tryz.func186.trans (congrArg some Kr)
 f279:=Tryz.func116.trans (congrArg some Kr)
 f280:=Tryz.func117.trans (congrArg some Kr)
 f281:=Tryz.func118.trans (congrArg some Kr)
 f282:=Tryz.func119.trans (congrArg some Kr)
 f283:=Tryz.func197.trans (congrArg some Kr)
 f284:=Tryz.func198.trans (congrArg some Kr)
 f285:=Tryz.func199.trans (congrArg some Kr)
 f286:=Tryz.func200.trans (congrArg some Kr)
 f316:=Tryz.func141.trans (congrArg some Kr)
 f317:=Tryz.func203.trans (congrArg some Kr)
 f318:=Tryz.func179.trans (congrArg some Kr)
 f319:=Tryz.func204.trans (congrArg some Kr)
 f320:=Tryz.func205.trans (congrArg some Kr)
 f337:=Tryz.func206.trans (congrArg some Kr)
 f338:=Tryz.func207.trans (congrArg some Kr)
 t0:=Tryz.underlying0
 a0:=Tryz.isAgg0
 z0:=Tryz.sizeOf0
 v0:=Tryz.zeroValue0
 t2:=Tryz.underlying2
 a2:=Tryz.isAgg2
 z2:=Tryz.sizeOf2
 v2:=Tryz.zeroValue2
 t3:=Tryz.underlying3
 a3:=Tryz.isAgg3
 z3:=Tryz.sizeOf3
 v3:=Tryz.zeroValue3
 t4:=Tryz.underlying4
 a4:=Tryz.isAgg4
 z4:=Tryz.sizeOf4
 v4:=Tryz.zeroValue4
 t5:=Tryz.underlying5
 a5:=Tryz.isAgg5
 z5:=Tryz.sizeOf5
 v5:=Tryz.zeroValue5
 t9:=Tryz.underlying9
 a9:=Tryz.isAgg9
 z9:=Tryz.sizeOf9
 v9:=Tryz.zeroValue9
 t20:=Tryz.underlying20
 a20:=Tryz.isAgg20
 z20:=Tryz.sizeOf20
 v20:=Tryz.zeroValue20
 t37:=Tryz.underlying109
 a37:=Tryz.isAgg109
 z37:=Tryz.sizeOf109
 v37:=Tryz.zeroValue109
 t46:=Tryz.underlying91
 a46:=Tryz.isAgg91
 z46:=Tryz.sizeOf91
 v46:=Tryz.zeroValue91
 t51:=Tryz.underlying142
 a51:=Tryz.isAgg142
 z51:=Tryz.sizeOf142
 v51:=Tryz.zeroValue142
 t53:=Tryz.underlying23
 a53:=Tryz.isAgg23
 z53:=Tryz.sizeOf23
 v53:=Tryz.zeroValue23
 t75:=Tryz.underlying59
 a75:=Tryz.isAgg59
 z75:=Tryz.sizeOf59
 v75:=Tryz.zeroValue59
 t127:=Tryz.underlying242
 a127:=Tryz.isAgg242
 z127:=Tryz.sizeOf242
 v127:=Tryz.zeroValue242
 t143:=Tryz.underlying147
 a143:=Tryz.isAgg147
 z143:=Tryz.sizeOf147
 v143:=Tryz.zeroValue147
 t145:=Tryz.underlying149
 a145:=Tryz.isAgg149
 z145:=Tryz.sizeOf149
 v145:=Tryz.zeroValue149
 t167:=Tryz.underlying181
 a167:=Tryz.isAgg181
 z167:=Tryz.sizeOf181
 v167:=Tryz.zeroValue181
 t168:=Tryz.underlying182
 a168:=Tryz.isAgg182
 z168:=Tryz.sizeOf182
 v168:=Tryz.zeroValue182
 t171:=Tryz.underlying284
 a171:=Tryz.isAgg284
 z171:=Tryz.sizeOf284
 v171:=Tryz.zeroValue284
 t173:=Tryz.underlying286
 a173:=Tryz.isAgg286
 z173:=Tryz.sizeOf286
 v173:=Tryz.zeroValue286
 t210:=Tryz.underlying208
 a210:=Tryz.isAgg208
 z210:=Tryz.sizeOf208
 v210:=Tryz.zeroValue208
 t212:=Tryz.underlying293
 a212:=Tryz.isAgg293
 z212:=Tryz.sizeOf293
 v212:=Tryz.zeroValue293
 t213:=Tryz.underlying294
 a213:=Tryz.isAgg294
 z213:=Tryz.sizeOf294
 t232:=Tryz.underlying295
 a232:=Tryz.isAgg295
 z232:=Tryz.sizeOf295
 v232:=Tryz.zeroValue295
 t233:=Tryz.underlying296
 a233:=Tryz.isAgg296
 z233:=Tryz.sizeOf296
 v233:=Tryz.zeroValue296
 g15:=Kr
 g16:=Kr
 g17:=Kr
 g18:=Kr
 g19:=Kr
 t80:=Tryz.underlying164
 a80:=Tryz.isAgg164
 z80:=Tryz.sizeOf164
 v80:=Tryz.zeroValue164
 i0:=Kr
 i2:=Kr
 i3:=Kr
 i4:=Kr
 i5:=Kr
 i9:=Kr
 i20:=Kr
 i37:=Kr
 i46:=Kr
 i51:=Kr
 i53:=Kr
 i75:=Kr
 i80:=Kr
 i127:=Kr
 i143:=Kr
 i145:=Kr
 i167:=Kr
 i168:=Kr
 i171:=Kr
 i173:=Kr
 i210:=Kr
 i212:=Kr
 i232:=Kr
 i233:=Kr
 m15:=Kr
 m16:=Kr
 m17:=Kr
 m18:=Kr
 m19:=Kr
 c0:=Kr
 c2:=Kr
 c3:=Kr
 c4:=Kr
 c5:=Kr
 c9:=Kr
 c20:=Kr
 c37:=Kr
 c46:=Kr
 c51:=Kr
 c53:=Kr
 c75:=Kr
 c80:=Kr
 c127:=Kr
 c143:=Kr
 c145:=Kr
 c167:=Kr
 c168:=Kr
 c171:=Kr
 c173:=Kr
 c210:=Kr
 c212:=Kr
 c213:=Kr
 c232:=Kr
 c233:=by kernel_rfl }
open Go.RowKit in
theorem Tryz.strconv_toError_syntax(fn s:ByteArray)(base bits:Int)(ev:Value)(w:World)(hlim:s.size<=281474976710656)(hv:w.cell? ⟨2,0,none⟩=some ev)(hev:ev=.nilIface\/∃te pe,ev=.iface te pe) :
 Calls Tryz.prog 96 #[.string fn,.string s,.int .i64 base,.int .i64 bits,.iface 181 (.int .i64 2)] w λe w'=>∃N,e=.returned (.iface 182 (.pointer (some ⟨N,0,none⟩)))/\w.heap.size<=N/\w'.heap[N]?=some (.cells #[.string fn,.string s,ev] 208 (0,0))/\Below w.heap.size w w':=Any.strconv_toError_syntax Tryz.laysC245 fn s base bits ev w hlim hv hev
open Go.RowKit in
theorem Tryz.strconv_toError_range(fn s:ByteArray)(base bits:Int)(ev:Value)(w:World)(hlim:s.size<=281474976710656)(hv:w.cell? ⟨3,0,none⟩=some ev)(hev:ev=.nilIface\/∃te pe,ev=.iface te pe) :
 Calls Tryz.prog 96 #[.string fn,.string s,.int .i64 base,.int .i64 bits,.iface 181 (.int .i64 1)] w λe w'=>∃N,e=.returned (.iface 182 (.pointer (some ⟨N,0,none⟩)))/\w.heap.size<=N/\w'.heap[N]?=some (.cells #[.string fn,.string s,ev] 208 (0,0))/\Below w.heap.size w w':=Any.strconv_toError_range Tryz.laysC245 fn s base bits ev w hlim hv hev
def Tryz.lays192_ren:Go.Shelf.Ren:=⟨fun|192=>7|190=>29|125=>49|258=>48|128=>89|129=>90|302=>80|303=>81|304=>82|305=>83|306=>84|307=>85|308=>86|309=>87|310=>88|333=>108|329=>109|330=>110|334=>111|335=>112|336=>113|344=>137|n=>n,fun|31=>29|0=>0|9=>9|3=>3|46=>91|51=>142|53=>23|4=>4|183=>136|182=>135|131=>93|5=>5|218=>172|222=>176|228=>200|229=>44|n=>n,fun|n=>n⟩
theorem Tryz.lays192:Go.Proofs.Lays.n192 Tryz.prog Tryz.lays192_ren:={
 mixed:=Kr
 f125:=Tryz.func49.trans (congrArg some Kr)
 f128:=Tryz.func89.trans (congrArg some Kr)
 f129:=Tryz.func90.trans (congrArg some Kr)
 f190:=Tryz.func29.trans (congrArg some Kr)
 f192:=Tryz.func7.trans (congrArg some Kr)
 f258:=Tryz.func48.trans (congrArg some Kr)
 f302:=Tryz.func80.trans (congrArg some Kr)
 f303:=Tryz.func81.trans (congrArg some Kr)
 f304:=Tryz.func82.trans (congrArg some Kr)
 f305:=Tryz.func83.trans (congrArg some Kr)
 f306:=Tryz.func84.trans (congrArg some Kr)
 f307:=Tryz.func85.trans (congrArg some Kr)
 f308:=Tryz.func86.trans (congrArg some Kr)
 f309:=Tryz.func87.trans (congrArg some Kr)
 f310:=Tryz.func88.trans (congrArg some Kr)
 f329:=Tryz.func109.trans (congrArg some Kr)
 f330:=Tryz.func110.trans (congrArg some Kr)
 f333:=Tryz.func108.trans (congrArg some Kr)
 f334:=Tryz.func111.trans (congrArg some Kr)
 f335:=Tryz.func112.trans (congrArg some Kr)
 f336:=Tryz.func113.trans (congrArg some Kr)
 f344:=Tryz.func137.trans (congrArg some Kr)
 t0:=Tryz.underlying0
 a0:=Tryz.isAgg0
 z0:=Tryz.sizeOf0
 v0:=Tryz.zeroValue0
 t3:=Tryz.underlying3
 a3:=Tryz.isAgg3
 z3:=Tryz.sizeOf3
 v3:=Tryz.zeroValue3
 t4:=Tryz.underlying4
 a4:=Tryz.isAgg4
 z4:=Tryz.sizeOf4
 v4:=Tryz.zeroValue4
 t5:=Tryz.underlying5
 a5:=Tryz.isAgg5
 z5:=Tryz.sizeOf5
 v5:=Tryz.zeroValue5
 t9:=Tryz.underlying9
 a9:=Tryz.isAgg9
 z9:=Tryz.sizeOf9
 v9:=Tryz.zeroValue9
 t31:=Tryz.underlying29
 a31:=Tryz.isAgg29
 z31:=Tryz.sizeOf29
 v31:=Tryz.zeroValue29
 t46:=Tryz.underlying91
 a46:=Tryz.isAgg91
 z46:=Tryz.sizeOf91
 v46:=Tryz.zeroValue91
 t51:=Tryz.underlying142
 a51:=Tryz.isAgg142
 z51:=Tryz.sizeOf142
 v51:=Tryz.zeroValue142
 t53:=Tryz.underlying23
 a53:=Tryz.isAgg23
 z53:=Tryz.sizeOf23
 v53:=Tryz.zeroValue23
 t131:=Tryz.underlying93
 a131:=Tryz.isAgg93
 z131:=Tryz.sizeOf93
 v131:=Tryz.zeroValue93
 t182:=Tryz.underlying135
 a182:=Tryz.isAgg135
 z182:=Tryz.sizeOf135
 v182:=Tryz.zeroValue135
 t183:=Tryz.underlying136
 a183:=Tryz.isAgg136
 z183:=Tryz.sizeOf136
 v183:=Tryz.zeroValue136
 t218:=Tryz.underlying172
 a218:=Tryz.isAgg172
 z218:=Tryz.sizeOf172
 v218:=Tryz.zeroValue172
 t222:=Tryz.underlying176
 a222:=Tryz.isAgg176
 z222:=Tryz.sizeOf176
 v222:=Tryz.zeroValue176
 t228:=Tryz.underlying200
 a228:=Tryz.isAgg200
 z228:=Tryz.sizeOf200
 v228:=Tryz.zeroValue200
 t229:=Tryz.underlying44
 a229:=Tryz.isAgg44
 z229:=Tryz.sizeOf44
 v229:=Tryz.zeroValue44 }
open Go.Sort Go.RowKit in
theorem Tryz.sort_Strings(blk off cap:Nat)(ss:List (List UInt8))(w:World)(hH:Holds encStr w blk off ss.toArray)(hblk:blk<w.heap.size)(hsz:ss.length<4611686018427387904) :
 Calls Tryz.prog 7 #[.slice (some ⟨blk,off,none⟩) ss.length cap] w λe w'=>e=.returned (.tuple #[])/\∃n os,w'=grow (putRow encStr (Sort.ahead w n) blk off (ss.mergeSort λx y=>decide (x<=y)).toArray) os:=Any.sort_Strings Tryz.lays192 blk off cap ss w hH hblk hsz
def Tryz.lays197_ren:Go.Shelf.Ren:=⟨fun|197=>123|260=>143|n=>n,fun|9=>9|21=>21|3=>3|4=>4|5=>5|105=>193|119=>243|0=>0|46=>91|139=>246|138=>245|n=>n,fun|3=>7|4=>8|n=>n⟩
theorem Tryz.lays197:Go.Proofs.Lays.n197 Tryz.prog Tryz.lays197_ren:={
 mixed:=Kr
 f197:=Tryz.func123.trans (congrArg some Kr)
 f260:=Tryz.func143.trans (congrArg some Kr)
 t0:=Tryz.underlying0
 a0:=Tryz.isAgg0
 z0:=Tryz.sizeOf0
 v0:=Tryz.zeroValue0
 t3:=Tryz.underlying3
 a3:=Tryz.isAgg3
 z3:=Tryz.sizeOf3
 v3:=Tryz.zeroValue3
 t4:=Tryz.underlying4
 a4:=Tryz.isAgg4
 z4:=Tryz.sizeOf4
 v4:=Tryz.zeroValue4
 t5:=Tryz.underlying5
 a5:=Tryz.isAgg5
 z5:=Tryz.sizeOf5
 v5:=Tryz.zeroValue5
 t9:=Tryz.underlying9
 a9:=Tryz.isAgg9
 z9:=Tryz.sizeOf9
 v9:=Tryz.zeroValue9
 t21:=Tryz.underlying21
 a21:=Tryz.isAgg21
 z21:=Tryz.sizeOf21
 v21:=Tryz.zeroValue21
 t46:=Tryz.underlying91
 a46:=Tryz.isAgg91
 z46:=Tryz.sizeOf91
 v46:=Tryz.zeroValue91
 t105:=Tryz.underlying193
 a105:=Tryz.isAgg193
 z105:=Tryz.sizeOf193
 v105:=Tryz.zeroValue193
 t119:=Tryz.underlying243
 a119:=Tryz.isAgg243
 z119:=Tryz.sizeOf243
 t138:=Tryz.underlying245
 a138:=Tryz.isAgg245
 z138:=Tryz.sizeOf245
 v138:=Tryz.zeroValue245
 t139:=Tryz.underlying246
 a139:=Tryz.isAgg246
 z139:=Tryz.sizeOf246
 v139:=Tryz.zeroValue246
 g3:=Kr
 g4:=by kernel_rfl }
def Tryz.lays264_ren:Go.Shelf.Ren:=⟨fun|264=>193|n=>n,fun|53=>23|46=>91|n=>n,fun|n=>n⟩
theorem Tryz.lays264:Go.Proofs.Lays.n264 Tryz.prog Tryz.lays264_ren:={
 mixed:=Kr
 f264:=Tryz.func193.trans (congrArg some Kr)
 t46:=Tryz.underlying91
 a46:=Tryz.isAgg91
 z46:=Tryz.sizeOf91
 v46:=Tryz.zeroValue91
 t53:=Tryz.underlying23
 a53:=Tryz.isAgg23
 z53:=Tryz.sizeOf23
 v53:=Tryz.zeroValue23 }
open Go.RowKit Go.Lib in
theorem Tryz.bits_Mul64(x y:Nat)(hx:x<18446744073709551616)(hy:y<18446744073709551616)(w:World) :
 Calls Tryz.prog 193 #[.int .u64 x,.int .u64 y] w λe w'=>e=.returned (.tuple #[.int .u64 ((x*y/18446744073709551616:Nat):Int),.int .u64 ((x*y%18446744073709551616:Nat):Int)])/\w'=w:=Any.bits_Mul64 Tryz.lays264 x y hx hy w
def Tryz.lays260_ren:Go.Shelf.Ren:=⟨fun|260=>143|n=>n,fun|9=>9|21=>21|3=>3|4=>4|5=>5|119=>243|0=>0|46=>91|139=>246|138=>245|n=>n,fun|3=>7|4=>8|n=>n⟩
theorem Tryz.lays260:Go.Proofs.Lays.n260 Tryz.prog Tryz.lays260_ren:={
 mixed:=Kr
 f260:=Tryz.func143.trans (congrArg some Kr)
 t0:=Tryz.underlying0
 a0:=Tryz.isAgg0
 z0:=Tryz.sizeOf0
 v0:=Tryz.zeroValue0
 t3:=Tryz.underlying3
 a3:=Tryz.isAgg3
 z3:=Tryz.sizeOf3
 v3:=Tryz.zeroValue3
 t4:=Tryz.underlying4
 a4:=Tryz.isAgg4
 z4:=Tryz.sizeOf4
 v4:=Tryz.zeroValue4
 t5:=Tryz.underlying5
 a5:=Tryz.isAgg5
 z5:=Tryz.sizeOf5
 v5:=Tryz.zeroValue5
 t9:=Tryz.underlying9
 a9:=Tryz.isAgg9
 z9:=Tryz.sizeOf9
 v9:=Tryz.zeroValue9
 t21:=Tryz.underlying21
 a21:=Tryz.isAgg21
 z21:=Tryz.sizeOf21
 v21:=Tryz.zeroValue21
 t46:=Tryz.underlying91
 a46:=Tryz.isAgg91
 z46:=Tryz.sizeOf91
 v46:=Tryz.zeroValue91
 t119:=Tryz.underlying243
 a119:=Tryz.isAgg243
 z119:=Tryz.sizeOf243
 t138:=Tryz.underlying245
 a138:=Tryz.isAgg245
 z138:=Tryz.sizeOf245
 v138:=Tryz.zeroValue245
 t139:=Tryz.underlying246
 a139:=Tryz.isAgg246
 z139:=Tryz.sizeOf246
 v139:=Tryz.zeroValue246
 g3:=Kr
 g4:=by kernel_rfl }
open Go.RowKit Go.Lib in
theorem Tryz.utf8_DecodeRuneInString(s:ByteArray)(w:World)(hT:Lib.Utf8Tabs 7 8 w) :
 Calls Tryz.prog 123 #[.string s] w λe w'=>e=.returned (.tuple #[.int .i32 (Lib.decodeGo s).1,.int .i64 (Lib.decodeGo s).2])/\Below w.heap.size w w':=Any.utf8_DecodeRuneInString Tryz.lays197 s w hT
open Go.RowKit Go.Sort in
theorem Tryz.sort_Strings_none(p:Option Addr)(cap:Nat)(w:World) :
 Calls Tryz.prog 7 #[.slice p 0 cap] w λe w'=>e=.returned (.tuple #[])/\w'=w:=Any.sort_Strings_none Tryz.lays192 p cap w
end
end Go.Proofs
namespace Go.Proofs.YtbnbadcnfchdhaaGreatDoor
open Go.RowKit
def AA(s:ByteArray)(i:Nat):Int:=((s.data.toList.getD i 0).toNat:Int)
theorem CJ(s:ByteArray)(i:Nat):0<=AA s i/\AA s i<=255:=by unfold AA;have:=(s.data.toList.getD i 0).toNat_lt;omega
theorem AJ{s:ByteArray}{i:Nat}(hi:i<s.size):((s[i]'hi).toNat:Int)=AA s i:=by
 have h:s.data.toList.getD i 0=s[i]'hi:=by rw[List.getD_eq_getElem?_getD,List.getElem?_eq_getElem (by simpa using hi)];simp;rfl
 unfold AA;rw[h]
structure Q3(s:ByteArray)(i0 i1 i2:Nat)(neg eneg:Bool):Prop where
 small:s.size<=100000
 sign:i0=0/\neg=false/\48<=AA s 0\/i0=1/\(neg=false/\AA s 0=43\/neg=true/\AA s 0=45)
 some:i0<i1
 fits:i1<=s.size
 head:48<=AA s i0/\AA s i0<=57
 mant:∀i,i0<=i->i<i1->AA s i=46\/48<=AA s i/\AA s i<=57
 one:∀i j,i0<=i->i<j->j<i1->AA s i=46->AA s j≠46
 tail:i1=s.size\/(AA s i1=101\/AA s i1=69)/\i2<s.size/\(i2=i1+1/\eneg=false\/i2=i1+2/\(eneg=false/\AA s (i1+1)=43\/eneg=true/\AA s (i1+1)=45))/\∀i,i2<=i->i<s.size->48<=AA s i/\AA s i<=57
structure RS where
 dot:Bool
 dg:Bool
 tr:Bool
 nd:Int
 ndm:Int
 dp:Int
 m:Int
def RS.step(x:RS)(c:Int):RS:=
 if c=46 then { x with dot:=true,dp:=x.nd }
 else if c=48/\x.nd=0 then { x with dg:=true,dp:=x.dp-1 }
 else if x.ndm<19 then { x with dg:=true,nd:=x.nd+1,m:=IntKind.u64.wrap (IntKind.u64.wrap (x.m*10)+(c-48)),ndm:=x.ndm+1 }
 else { x with dg:=true,nd:=x.nd+1,tr:=x.tr||decide (c≠48) }
def RS.start:RS:=⟨false,false,false,0,0,0,0⟩
def RS.run(s:ByteArray)(i0:Nat):Nat->RS
 |0=>RS.start
 |k+1=>(RS.run s i0 k).step (AA s (i0+k))
theorem RS.rin(s:ByteArray)(i0:Nat):∀k,0<=(RS.run s i0 k).nd/\(RS.run s i0 k).nd<=k/\0<=(RS.run s i0 k).ndm/\(RS.run s i0 k).ndm<=19/\-(k:Int)<=(RS.run s i0 k).dp/\(RS.run s i0 k).dp<=k/\0<=(RS.run s i0 k).m/\(RS.run s i0 k).m<18446744073709551616
 |0=>by simp[RS.run,RS.start]
 |k+1=>by
  have ih:=RS.rin s i0 k;have hw:=LL (IntKind.u64.wrap ((RS.run s i0 k).m*10)+(AA s (i0+k)-48));unfold RS.run RS.step;split
  .simp only;omega
  split
  .simp only;omega
  split
  .simp only;omega
  simp only;omega
theorem RS.run_dot{s:ByteArray}{i0 i1 i2:Nat}{neg eneg:Bool}(h:Q3 s i0 i1 i2 neg eneg):∀k,i0+k<=i1->(RS.run s i0 k).dot=true->∃i,i0<=i/\i<i0+k/\AA s i=46
 |0,_,hd=>by simp[RS.run,RS.start]at hd
 |k+1,hk,hd=>by
  unfold RS.run RS.step at hd;by_cases hc:AA s (i0+k)=46
  .exact⟨i0+k,Om,Om,hc⟩
  rw[if_neg hc]at hd;have:(RS.run s i0 k).dot=true:=by
   revert hd;split
   .exact id
   split<;>exact id
  obtain⟨i,a,b,c⟩:=RS.run_dot h k Om this;exact⟨i,a,Om,c⟩
theorem RS.run_dg{s:ByteArray}{i0 i1 i2:Nat}{neg eneg:Bool}(h:Q3 s i0 i1 i2 neg eneg):∀k,1<=k->i0+k<=i1->(RS.run s i0 k).dg=true
 |0,h1,_=>Om
 |k+1,_,hk=>by
  have hh:=h.head
  cases k with
  |zero=>
   unfold RS.run RS.step;rw[if_neg (by rw[Nat.add_zero];omega)];split
   .rfl
   split<;>rfl
  |succ k=>
   have ih:=RS.run_dg h (k+1) Om Om;generalize k+1=j at *;unfold RS.run RS.step;split
   .exact ih
   split
   .rfl
   split<;>rfl
def SN(e c:Int):Int:=if e<10000 then e*10+c-48 else e
def J6(s:ByteArray)(i2:Nat):Nat->Int
 |0=>0
 |k+1=>SN (J6 s i2 k) (AA s (i2+k))
theorem OM{s:ByteArray}{i2:Nat}(h:∀i,i2<=i->i<s.size->48<=AA s i/\AA s i<=57):∀k,i2+k<=s.size->0<=J6 s i2 k/\J6 s i2 k<=100000
 |0,_=>by simp[J6]
 |k+1,hk=>by have ih:=OM h k Om;have hc:=h (i2+k) Om Om;unfold J6 SN;split<;>omega
def Q9(s:ByteArray)(i1 i2:Nat)(eneg:Bool):Int:=if i1=s.size then 0 else J6 s i2 (s.size-i2)*(if eneg then -1 else 1)
def rfX(s:ByteArray)(i0 i1:Nat):RS:=RS.run s i0 (i1-i0)
def ALj(s:ByteArray)(i0 i1 i2:Nat)(eneg:Bool):Int:=(if (rfX s i0 i1).dot then(rfX s i0 i1).dp else(rfX s i0 i1).nd)+Q9 s i1 i2 eneg
def rfP(s:ByteArray)(i0 i1 i2:Nat)(eneg:Bool):Int:=if (rfX s i0 i1).m=0 then 0 else ALj s i0 i1 i2 eneg-(rfX s i0 i1).ndm
theorem AE2{s:ByteArray}{i0 i1 i2:Nat}{neg eneg:Bool}(h:Q3 s i0 i1 i2 neg eneg):-100000<=Q9 s i1 i2 eneg/\Q9 s i1 i2 eneg<=100000:=by
 unfold Q9;split
 .omega
 rename_i h1;rcases h.tail with h2|⟨-,h3,-,h4⟩
 .exact absurd h2 h1
 have:=OM h4 (s.size-i2) Om;split<;>omega
theorem KN:∀c:Fin 256,bits .or .u8 (c.val:Int) 32=if c.val/32%2=1 then(c.val:Int) else(c.val:Int)+32:=by decide +kernel
theorem WH{c:Int}(h0:32<=c)(h1:c<=63):bits .or .u8 c 32=c:=by have:=KN ⟨c.toNat,Om⟩;simp only at this;rw[show ((c.toNat:Nat):Int)=c by omega,if_pos Om]at this;exact this
theorem G2{c:Int}(h0:96<=c)(h1:c<=127):bits .or .u8 c 32=c:=by have:=KN ⟨c.toNat,Om⟩;simp only at this;rw[show ((c.toNat:Nat):Int)=c by omega,if_pos Om]at this;exact this
theorem LG{c:Int}(h0:64<=c)(h1:c<=95):bits .or .u8 c 32=c+32:=by have:=KN ⟨c.toNat,Om⟩;simp only at this;rw[show ((c.toNat:Nat):Int)=c by omega,if_neg Om]at this;exact this
theorem C7(c:Int)(w:World)(h0:0<=c)(h1:c<=255) :
 Calls Tryz.prog 120 #[.int .u8 c] w λe w'=>e=.returned (.int .u8 (bits .or .u8 c 32))/\w=w':=by
 go_enter Tryz.func120,Tryz.ntmps120
 go_wp2_with fail
 go_ret
 exact⟨rfl,rfl⟩
theorem AO0(s:ByteArray)(i0 i1 i2:Nat)(neg eneg:Bool)(h:Q3 s i0 i1 i2 neg eneg)(w:World) :
 Calls Tryz.prog 154 #[.string s] w λe w'=>e=.returned (.tuple #[.int .u64 (rfX s i0 i1).m,.int .i64 (rfP s i0 i1 i2 eneg),.bool neg,.bool (rfX s i0 i1).tr,.bool false,.int .i64 s.size,.bool true])/\w=w':=by
 have hsm:=h.small
 have hs1:=h.some
 have hft:=h.fits
 have H:=Hd h
 have h0:0<s.size:=Om
 have h0i:(0:Int)<(s.size:Int):=Om
 have hne:¬s=ByteArray.empty:=by rintro rfl;simp at h0
 go_enter Tryz.func154,Tryz.ntmps154
 go_wp2_with fail
 go_step3
 have e0:=AJ h0
 go_upto_block 0 with fail
 go_cut [4,7] from 27 to 35 (λv4 v7 wx=>v4=.bool neg/\v7=.int .i64 i0/\wx=w)
 case first=>
  have hsg:=h.sign;have hd:=h.head;clear h;rcases hsg with⟨rfl,rfl,hc⟩|⟨rfl,⟨rfl,hc⟩|⟨rfl,hc⟩⟩
  .have t1:(AA s 0==43)=false:=Bq
   have t2:(AA s 0==45)=false:=Bq;generalize AA s 0=c at *;go_wp2_with fail;go_meet;exact⟨rfl,rfl,rfl⟩
  .have t1:(AA s 0==43)=true:=by rw[beq_iff_eq];exact hc
   clear hc hd;generalize AA s 0=c at *;go_wp2_with fail;go_meet;exact⟨rfl,rfl,rfl⟩
  have t1:(AA s 0==43)=false:=Bq;have t2:(AA s 0==45)=true:=by rw[beq_iff_eq];exact hc
  clear hc hd;generalize AA s 0=c at *;go_wp2_with fail;go_meet;exact⟨rfl,rfl,rfl⟩
 obtain⟨rfl,rfl,rfl⟩:=hcut
 clear e0 h h0
 go_upto_region 12 with fail
 go_cut [54] from 36 to 53 (λv54 wx=>v54=.bool false/\wx=wc)
 case first=>
  by_cases hl:(i0:Int)+2<s.size
  .have hi:i0<s.size:=Om
   have hi1:i0+1<s.size:=Om;have e1:=AJ hi;have e2:=AJ hi1;have b1:=CJ s i0;have b2:=CJ s (i0+1);have hnx:AA s (i0+1)=46\/48<=AA s (i0+1)/\AA s (i0+1)<=57\/AA s (i0+1)=101\/AA s (i0+1)=69:=by
    by_cases hh:i0+1<i1
    .rcases H.out.mant (i0+1) Om hh with a|a
     .exact Or.inl a
     exact Or.inr (Or.inl a)
    have he:i1=i0+1:=Om;rcases H.out.tail with a|⟨a,-⟩
    .omega
    rw[he]at a;exact Or.inr (Or.inr a)
   have hlo:(bits .or .u8 (AA s (i0+1)) 32==120)=false:=by
    rw[Bn];rcases hnx with a|a|a|a
    .rw[a,WH Om Om];decide
    .rw[WH Om Om];omega
    .rw[a,G2 Om Om];decide
    rw[a,LG Om Om];decide
   clear hnx;generalize AA s (i0+1)=c2 at *;generalize AA s i0=c1 at *;by_cases hc:c1=48
   .have t1:(c1==48)=true:=by rw[beq_iff_eq];exact hc
    clear hc;go_wp2_with (go_at_call 120;refine(C7 _ _ Om Om).mono ?_;rintro e w' ⟨rfl,rfl⟩);go_meet;exact⟨rfl,rfl⟩
   have t1:(c1==48)=false:=by rw[Bn];exact hc
   clear hc;go_wp2_with fail;go_meet;exact⟨rfl,rfl⟩
  go_wp2_with fail;go_meet;exact⟨rfl,rfl⟩
 obtain⟨rfl,rfl⟩:=hcut
 go_wp2_with fail
 go_step3
 go_wp2_with fail
 go_loopg [2,5,7,9,13,14,15,16,17] (i1-i0) (λg v2 v5 v7 v9 v13 v14 v15 v16 v17 wr=>∃k:Nat,k+g=i1-i0/\v2=.int .u64 (RS.run s i0 k).m/\v5=.bool (RS.run s i0 k).tr/\v7=.int .i64 ((i0+k:Nat):Int)/\v9=.bool false/\v13=.bool (RS.run s i0 k).dot/\v14=.bool (RS.run s i0 k).dg/\v15=.int .i64 (RS.run s i0 k).nd/\v16=.int .i64 (RS.run s i0 k).ndm/\v17=.int .i64 (RS.run s i0 k).dp/\wr=wc)
 case atStart=>exact⟨0,Om,rfl,rfl,rfl,rfl,rfl,rfl,rfl,rfl,rfl,rfl⟩
 obtain⟨k,hkg,rfl,rfl,rfl,rfl,rfl,rfl,rfl,rfl,rfl,rfl⟩:=hrel
 have hin:=RS.rin s i0 k
 have hdot:=RS.run_dot H.out k Om
 have hdg:=RS.run_dg H.out k
 have hnext:RS.run s i0 (k+1)=(RS.run s i0 k).step (AA s (i0+k)):=rfl
 have hX:k=i1-i0->rfX s i0 i1=RS.run s i0 k:=λe=>by unfold rfX;rw[e]
 obtain⟨x,hx⟩:∃x,RS.run s i0 k=x:=⟨_,rfl⟩
 rw[hx]at hin hdot hdg hnext hX ⊢
 clear hx
 obtain⟨dot,dg,tr,nd,ndm,dp,m⟩:=x
 simp only at hin hdot hdg
 obtain⟨q1,q2,q3,q4,q5,q6,q7,q8⟩:=hin
 have HX:=Hd hX
 have HDG:=Hd hdg
 clear hX hdg
 show Code.wp _ _ _ _ _
 cases gk with
 |succ g=>
  have hik:i0+k<s.size:=Om
  have hiki:((i0+k:Nat):Int)<(s.size:Int):=Om
  have ec:=AJ hik
  have hm:=H.out.mant (i0+k) Om Om
  have hd46:AA s (i0+k)=46->dot=false:=λhc=>by
   cases dot with
   |false=>rfl
   |true=>obtain⟨i,a,b,e⟩:=hdot rfl;exact absurd hc (H.out.one i (i0+k) a b Om e)
  clear hdot
  generalize AA s (i0+k)=c at *
  rcases hm with hc|⟨hc1,hc2⟩
  .obtain rfl:=hd46 hc
   have hs:RS.run s i0 (k+1)=⟨true,dg,tr,nd,ndm,nd,m⟩:=by rw[hnext];unfold RS.step;rw[if_pos hc]
   have HS:=Hd hs;have t1:(c==95)=false:=Bq;have t2:(c==46)=true:=by rw[beq_iff_eq];exact hc
   clear hs hnext hd46 hc;go_wp2_with fail;go_roundg g
   case rel=>exact⟨k+1,Om,by rw[HS.out],by rw[HS.out],by go_num,rfl,by rw[HS.out],by rw[HS.out],by rw[HS.out],by rw[HS.out],by rw[HS.out],rfl⟩
   omega
  have hc46:¬c=46:=Om
  have t1:(c==95)=false:=Bq
  have t2:(c==46)=false:=Bq
  by_cases hz:c=48/\nd=0
  .have hs:RS.run s i0 (k+1)=⟨dot,true,tr,nd,ndm,dp-1,m⟩:=by rw[hnext];unfold RS.step;rw[if_neg hc46,if_pos hz]
   have HS:=Hd hs;have t3:(c==48)=true:=by rw[beq_iff_eq];exact hz.1
   have t4:(nd==0)=true:=by rw[beq_iff_eq];exact hz.2
   clear hs hnext hd46 hc46 hz;go_wp2_with fail;go_roundg g
   case rel=>exact⟨k+1,Om,by rw[HS.out],by rw[HS.out],by go_num,rfl,by rw[HS.out],by rw[HS.out],by rw[HS.out],by rw[HS.out],by rw[HS.out],rfl⟩
   omega
  by_cases hl:ndm<19
  .have hs:RS.run s i0 (k+1)=⟨dot,true,tr,nd+1,ndm+1,dp,IntKind.u64.wrap (IntKind.u64.wrap (m*10)+(c-48))⟩:=by rw[hnext];unfold RS.step;rw[if_neg hc46,if_neg hz,if_pos hl]
   have HS:=Hd hs;by_cases h48:c=48
   .have t3:(c==48)=true:=by rw[beq_iff_eq];exact h48
    have t4:(nd==0)=false:=by rw[Bn];exactλe=>hz ⟨h48,e⟩
    clear hs hnext hd46 hc46 hz h48;go_wp2_with fail;go_roundg g
    case rel=>exact⟨k+1,Om,by rw[HS.out],by rw[HS.out],by go_num,rfl,by rw[HS.out],by rw[HS.out],by rw[HS.out],by rw[HS.out],by rw[HS.out],rfl⟩
    omega
   have t3:(c==48)=false:=by rw[Bn];exact h48
   clear hs hnext hd46 hc46 hz h48;go_wp2_with fail;go_roundg g
   case rel=>exact⟨k+1,Om,by rw[HS.out],by rw[HS.out],by go_num,rfl,by rw[HS.out],by rw[HS.out],by rw[HS.out],by rw[HS.out],by rw[HS.out],rfl⟩
   omega
  by_cases h48:c=48
  .have hs:RS.run s i0 (k+1)=⟨dot,true,tr,nd+1,ndm,dp,m⟩:=by rw[hnext];unfold RS.step;rw[if_neg hc46,if_neg hz,if_neg hl];simp[h48]
   have HS:=Hd hs;have t3:(c==48)=true:=by rw[beq_iff_eq];exact h48
   have t4:(nd==0)=false:=by rw[Bn];exactλe=>hz ⟨h48,e⟩
   have t5:(c !=48)=false:=by rw[bne_eq_false_iff_eq];exact h48
   clear hs hnext hd46 hc46 hz h48;go_wp2_with fail;go_roundg g
   case rel=>exact⟨k+1,Om,by rw[HS.out],by rw[HS.out],by go_num,rfl,by rw[HS.out],by rw[HS.out],by rw[HS.out],by rw[HS.out],by rw[HS.out],rfl⟩
   omega
  have hs:RS.run s i0 (k+1)=⟨dot,true,true,nd+1,ndm,dp,m⟩:=by rw[hnext];unfold RS.step;rw[if_neg hc46,if_neg hz,if_neg hl];simp[h48]
  have HS:=Hd hs
  have t3:(c==48)=false:=by rw[Bn];exact h48
  have t5:(c !=48)=true:=by rw[bne_iff_ne];exact h48
  clear hs hnext hd46 hc46 hz h48
  go_wp2_with fail
  go_roundg g
  case rel=>exact⟨k+1,Om,by rw[HS.out],by rw[HS.out],by go_num,rfl,by rw[HS.out],by rw[HS.out],by rw[HS.out],by rw[HS.out],by rw[HS.out],rfl⟩
  omega
 |zero=>
  obtain rfl:dg=true:=HDG.out Om Om
  have hxe:=HX.out Om
  have HXe:=Hd hxe
  obtain⟨dq,hdq⟩:∃dq,(if dot then dp else nd)=dq:=⟨_,rfl⟩
  have HDQ:=Hd hdq
  have hdq1:-100000<=dq/\dq<=100000:=by rw[<-hdq];split<;>omega
  obtain⟨hdq1,hdq2⟩:=hdq1
  have hki:i0+k=i1:=Om
  rw[hki]
  clear hxe hdq HX HDG hdot hnext hki
  by_cases hend:i1=s.size
  .have hA:Q9 s i1 i2 eneg=0:=by unfold Q9;rw[if_pos hend]
   have HA:=Hd hA;have hge:¬((i1:Int)<(s.size:Int)):=Om;have HE:=Hd hend;clear hA hend;go_upto_if 142 with fail;go_cut [17] from 143 to 143 (λv17 wx=>v17=.int .i64 dq/\wx=wr)
   case first=>
    cases dot with
    |true=>obtain rfl:dq=dp:=HDQ.out.symm;go_wp2_with fail;go_meet;exact⟨rfl,rfl⟩
    |false=>obtain rfl:dq=nd:=HDQ.out.symm;go_wp2_with fail;go_meet;exact⟨rfl,rfl⟩
   obtain⟨rfl,rfl⟩:=hcut;have he:=HE.out;rw[he];have hge2:¬((s.size:Int)<(s.size:Int)):=Om;clear he;by_cases hm0:m=0
   .have hp:rfP s i0 i1 i2 eneg=0:=by unfold rfP;rw[HXe.out,if_pos hm0]
    have HPe:=Hd hp;have t7:(m !=0)=false:=by rw[bne_eq_false_iff_eq];exact hm0
    clear hp hm0;go_wp2_with fail
    try rw[Exit.noGoto_ret]
    refine bodyPost_ret (v:=.tuple #[.int .u64 m,.int .i64 (0),.bool neg,.bool tr,.bool false,.int .i64 s.size,.bool true]) (by simp[results,Tryz.results154,go_sem]) rfl ⟨?_,rfl⟩;rw[HXe.out,HPe.out]
   have hp:rfP s i0 i1 i2 eneg=dq+0-ndm:=by unfold rfP ALj;rw[HXe.out,if_neg hm0,HA.out,HDQ.out]
   have HPe:=Hd hp;have t7:(m !=0)=true:=by rw[bne_iff_ne];exact hm0
   clear hp hm0;go_wp2_with fail
   try rw[Exit.noGoto_ret]
   refine bodyPost_ret (v:=.tuple #[.int .u64 m,.int .i64 (dq-ndm),.bool neg,.bool tr,.bool false,.int .i64 s.size,.bool true]) (by simp[results,Tryz.results154,go_sem]) rfl ⟨?_,rfl⟩;rw[HXe.out,HPe.out,Int.add_zero]
  obtain⟨hch,hi2,hsgn,hdg⟩:=H.out.tail.resolve_left hend
  have hlt:((i1:Nat):Int)<(s.size:Int):=Om
  have hlt1:((i1:Nat):Int)+1<(s.size:Int):=Om
  have hltN:i1<s.size:=Om
  have ec:=AJ hltN
  have hA:Q9 s i1 i2 eneg=J6 s i2 (s.size-i2)*(if eneg then -1 else 1):=by unfold Q9;rw[if_neg hend]
  obtain⟨A,hA'⟩:∃A,J6 s i2 (s.size-i2)*(if eneg then -1 else 1)=A:=⟨_,rfl⟩
  rw[hA']at hA
  have HA:=Hd hA
  have HA':=Hd hA'
  have hei:=OM hdg (s.size-i2) Om
  have hAi:-100000<=A/\A<=100000:=by rw[<-hA'];split<;>omega
  obtain⟨hAi1,hAi2⟩:=hAi
  have hlow:bits .or .u8 (AA s i1) 32=101:=by
   rcases hch with a|a
   .rw[a,G2 Om Om]
   rw[a,LG Om Om];rfl
  have hb:=CJ s i1
  have t1:(AA s i1==95)=false:=Bq
  have t2:(AA s i1==46)=false:=Bq
  have t3:57<AA s i1:=Om
  have t4:decide (AA s i1<=57)=false:=decide_eq_false Om
  have t5:decide ((s.size:Int)<=(i1:Int)+1)=false:=decide_eq_false Om
  have HDD:=Hd hdg
  have HSG:=Hd hsgn
  have HLO:=Hd hlow
  generalize AA s i1=c at *
  clear hend hch hsgn hA hA' hei hlow hdg
  go_upto_if 142 with fail
  go_cut [17] from 143 to 143 (λv17 wx=>v17=.int .i64 dq/\wx=wr)
  case first=>
   cases dot with
   |true=>obtain rfl:dq=dp:=HDQ.out.symm;go_wp2_with fail;go_meet;exact⟨rfl,rfl⟩
   |false=>obtain rfl:dq=nd:=HDQ.out.symm;go_wp2_with fail;go_meet;exact⟨rfl,rfl⟩
  obtain⟨rfl,rfl⟩:=hcut
  have LC:=Hd (λw=>C7 c w hb.1 hb.2)
  have lc:=HLO.out
  have LC2:Hid (∀w,Calls Tryz.prog 120 #[.int .u8 c] w λe w'=>e=.returned (.int .u8 101)/\w=w'):=λw=>by have:=LC.out w;rw[lc]at this;exact this
  clear lc LC
  go_upto_block 4 with(go_at_call 120;refine(LC2.out _).mono ?_;rintro e w' ⟨rfl,rfl⟩)
  go_cut [7,19] from 168 to 178 (λv7 v19 wx=>v7=.int .i64 i2/\v19=.int .i64 (if eneg then -1 else 1)/\wx=wc)
  case first=>
   have hltN1:i1+1<s.size:=Om;have e1:=AJ hltN1;have hhd:=HDD.out;rcases HSG.out with⟨ha,rfl⟩|⟨ha,⟨rfl,hc⟩|⟨rfl,hc⟩⟩
   .have hd2:=hhd (i1+1) Om Om
    have u1:(AA s (i1+1)==43)=false:=Bq;have u2:(AA s (i1+1)==45)=false:=Bq;generalize AA s (i1+1)=c2 at *;have HAA:=Hd ha;clear hhd ha;go_wp2_with fail;go_meet;exact⟨by rw[HAA.out];go_num,rfl,rfl⟩
   .have u1:(AA s (i1+1)==43)=true:=by rw[beq_iff_eq];exact hc
    generalize AA s (i1+1)=c2 at *;have HAA:=Hd ha;clear hhd ha hc;go_wp2_with fail;go_meet;exact⟨by rw[HAA.out];go_num,rfl,rfl⟩
   have u1:(AA s (i1+1)==43)=false:=Bq;have u2:(AA s (i1+1)==45)=true:=by rw[beq_iff_eq];exact hc
   generalize AA s (i1+1)=c2 at *;have HAA:=Hd ha;clear hhd ha hc;go_wp2_with fail;go_meet;exact⟨by rw[HAA.out];go_num,rfl,rfl⟩
  obtain⟨rfl,rfl,rfl⟩:=hcut
  obtain⟨hd21,hd22⟩:=HDD.out i2 Nl hi2
  have e2:=AJ hi2
  obtain⟨es,hes⟩:∃es:Int,(if eneg then -1 else 1)=es:=⟨_,rfl⟩
  have hA1:=HA'.out
  have hes1:-1<=es/\es<=1:=by rw[<-hes];split<;>omega
  rw[hes]at hA1 ⊢
  have HA1:=Hd hA1
  have HQ2:=Hd hes1
  have hi2i:(i2:Int)<(s.size:Int):=Om
  clear hA1 hes HA' hes1 ec t1 t2 t3 hb HLO LC2
  have t6:decide (s.size<=i2)=false:=decide_eq_false Om
  have t7:decide (AA s i2<48)=false:=decide_eq_false Om
  have t8:decide (57<AA s i2)=false:=decide_eq_false Om
  generalize AA s i2=c2 at hd21 hd22 e2 t7 t8
  go_wp2_with fail
  clear e2 hd21 hd22 hi2i hlt hltN hlt1 t4 t5 t6 t7 t8
  go_loopg [7,9,20] (s.size-i2) (λg v7 v9 v20 wr=>∃k2:Nat,k2+g=s.size-i2/\v7=.int .i64 ((i2+k2:Nat):Int)/\v9=.bool false/\v20=.int .i64 (J6 s i2 k2)/\wr=wc)
  case atStart=>exact⟨0,Om,rfl,rfl,rfl,rfl⟩
  obtain⟨k2,hkg2,rfl,rfl,rfl,rfl⟩:=hrel
  have hei2:=OM HDD.out k2 Om
  have hnext2:J6 s i2 (k2+1)=SN (J6 s i2 k2) (AA s (i2+k2)):=rfl
  have hfin:k2=s.size-i2->J6 s i2 k2*es=A:=λe=>by rw[e];exact HA1.out
  generalize J6 s i2 k2=ev at *
  have HFI:=Hd hfin
  clear hfin
  cases gk with
  |succ g=>
   have hik:i2+k2<s.size:=Om
   have hiki:((i2+k2:Nat):Int)<(s.size:Int):=Om
   have ec:=AJ hik
   obtain⟨hd31,hd32⟩:=HDD.out (i2+k2) Om hik
   generalize AA s (i2+k2)=c3 at *
   have u1:(c3==95)=false:=Bq
   by_cases hev:ev<10000
   .have hs:J6 s i2 (k2+1)=ev*10+c3-48:=by rw[hnext2];unfold SN;rw[if_pos hev]
    have HS:=Hd hs;clear hs hnext2;go_wp2_with fail;go_roundg g
    case rel=>exact⟨k2+1,Om,by go_num,rfl,by rw[HS.out],rfl⟩
    omega
   have hs:J6 s i2 (k2+1)=ev:=by rw[hnext2];unfold SN;rw[if_neg hev]
   have HS:=Hd hs
   clear hs hnext2
   go_wp2_with fail
   go_roundg g
   case rel=>exact⟨k2+1,Om,by go_num,rfl,by rw[HS.out],rfl⟩
   omega
  |zero=>
   have hA2:ev*es=A:=HFI.out Om
   have hki:i2+k2=s.size:=Om
   rw[hki]
   have hge:¬((s.size:Int)<(s.size:Int)):=Om
   clear hki hnext2 HFI
   by_cases hm0:m=0
   .have hp:rfP s i0 i1 i2 eneg=0:=by unfold rfP;rw[HXe.out,if_pos hm0]
    have HPe:=Hd hp;have t7:(m !=0)=false:=by rw[bne_eq_false_iff_eq];exact hm0
    clear hp hm0;go_wp2_with fail
    try rw[Exit.noGoto_ret]
    refine bodyPost_ret (v:=.tuple #[.int .u64 m,.int .i64 (0),.bool neg,.bool tr,.bool false,.int .i64 s.size,.bool true]) (by simp[results,Tryz.results154,go_sem]) rfl ⟨?_,rfl⟩;rw[HXe.out,HPe.out]
   have hp:rfP s i0 i1 i2 eneg=dq+A-ndm:=by unfold rfP ALj;rw[HXe.out,if_neg hm0,HA.out,HDQ.out]
   have HPe:=Hd hp
   have t7:(m !=0)=true:=by rw[bne_iff_ne];exact hm0
   clear hp hm0
   go_wp2_with fail
   try rw[Exit.noGoto_ret]
   refine bodyPost_ret (v:=.tuple #[.int .u64 m,.int .i64 (dq+A-ndm),.bool neg,.bool tr,.bool false,.int .i64 s.size,.bool true]) (by simp[results,Tryz.results154,go_sem]) rfl ⟨?_,rfl⟩
   rw[HXe.out,HPe.out]
structure SS where
 dot:Bool
 dg:Bool
 x:CM
def SS.step(y:SS)(c:Int):SS:=
 if c=46 then { y with dot:=true,x:={ y.x with dp:=y.x.nd } }
 else if c=48/\y.x.nd=0 then { y with dg:=true,x:={ y.x with dp:=y.x.dp-1 } }
 else if y.x.nd<800 then { y with dg:=true,x:={ y.x with d:=y.x.d.set! y.x.nd.toNat c,nd:=y.x.nd+1 } }
 else { y with dg:=true,x:={ y.x with trunc:=y.x.trunc||decide (c≠48) } }
def CM.zero(neg:Bool):CM:=⟨Array.replicate 800 0,0,0,neg,false⟩
def SS.run(s:ByteArray)(i0:Nat)(neg:Bool):Nat->SS
 |0=>⟨false,false,CM.zero neg⟩
 |k+1=>(SS.run s i0 neg k).step (AA s (i0+k))
structure SS.Fine(y:SS)(k:Nat):Prop where
 ok:y.x.Ok y.x.nd.toNat
 nd0:0<=y.x.nd
 lo:-(k:Int)<=y.x.dp
 hi:y.x.dp<=800+k
theorem AEm{d:Array Int}{i j:Nat}{v:Int}(h:i<d.size):(d.set! i v)[j]! = if i=j then v else d[j]!:=OW h
theorem SS.run_fine{s:ByteArray}{i0 i1 i2:Nat}{neg eneg:Bool}(h:Q3 s i0 i1 i2 neg eneg):∀k,i0+k<=i1->(SS.run s i0 neg k).Fine k
 |0,_=>⟨⟨by simp[SS.run,CM.zero],by simp[SS.run,CM.zero],by simp[SS.run,CM.zero],λi hi=>by simp[SS.run,CM.zero]at hi,λh0=>by simp[SS.run,CM.zero]at h0⟩,by simp[SS.run,CM.zero],by simp[SS.run,CM.zero],by simp[SS.run,CM.zero]⟩
 |k+1,hk=>by
  have ih:=SS.run_fine h k Om;have hc:=h.mant (i0+k) Om Om;unfold SS.run SS.step;generalize AA s (i0+k)=c at hc ⊢;generalize SS.run s i0 neg k=y at ih ⊢;obtain⟨dot,dg,x⟩:=y;obtain⟨⟨o1,o2,o3,o4,o5⟩,n0,l,u⟩:=ih;simp only at o1 o2 o3 o4 o5 n0 l u;split
  .exact⟨⟨o1,o2,o3,o4,o5⟩,n0,by simp only;omega,by simp only;omega⟩
  rename_i h46;have hc':48<=c/\c<=57:=Om;split
  .exact⟨⟨o1,o2,o3,o4,o5⟩,n0,by simp only;omega,by simp only;omega⟩
  rename_i hz;split
  .rename_i hl
   have hl':x.nd<800:=hl;have hz':¬(c=48/\x.nd=0):=hz;have e1:(x.nd+1).toNat=x.nd.toNat+1:=Om;have hsz:x.nd.toNat<x.d.size:=Om;have g1:∀i,i<(x.nd+1).toNat->48<=(x.d.set! x.nd.toNat c)[i]!/\(x.d.set! x.nd.toNat c)[i]!<=57:=λi hi=>by
    rw[AEm hsz];split
    .exact hc'
    exact o4 i Om
   have g2:49<=(x.d.set! x.nd.toNat c)[0]!:=by
    rw[AEm hsz];split
    .have:x.nd=0:=Om
     omega
    exact o5 Om
   have g3:(x.nd+1:Int)=((x.nd+1).toNat:Nat):=Om;exact⟨⟨by simp[o1],g3,by show (x.nd+1).toNat<=800;omega,g1,λ_=>g2⟩,by show 0<=x.nd+1;omega,by show -((k+1:Nat):Int)<=x.dp;omega,by show x.dp<=800+((k+1:Nat):Int);omega⟩
  exact⟨⟨o1,o2,o3,o4,o5⟩,n0,by simp only;omega,by simp only;omega⟩
theorem SS.run_dot{s:ByteArray}{i0 i1 i2:Nat}{neg eneg:Bool}(h:Q3 s i0 i1 i2 neg eneg):∀k,i0+k<=i1->(SS.run s i0 neg k).dot=true->∃i,i0<=i/\i<i0+k/\AA s i=46
 |0,_,hd=>by simp[SS.run]at hd
 |k+1,hk,hd=>by
  unfold SS.run SS.step at hd;by_cases hc:AA s (i0+k)=46
  .exact⟨i0+k,Om,Om,hc⟩
  rw[if_neg hc]at hd;have:(SS.run s i0 neg k).dot=true:=by
   revert hd;split
   .exact id
   split<;>exact id
  obtain⟨i,a,b,c⟩:=SS.run_dot h k Om this;exact⟨i,a,Om,c⟩
theorem SS.run_dg{s:ByteArray}{i0 i1 i2:Nat}{neg eneg:Bool}(h:Q3 s i0 i1 i2 neg eneg):∀k,1<=k->i0+k<=i1->(SS.run s i0 neg k).dg=true
 |0,h1,_=>Om
 |k+1,_,hk=>by
  have hh:=h.head
  cases k with
  |zero=>
   unfold SS.run SS.step;rw[if_neg (by rw[Nat.add_zero];omega)];split
   .rfl
   split<;>rfl
  |succ k=>
   have ih:=SS.run_dg h (k+1) Om Om;generalize k+1=j at *;unfold SS.run SS.step;split
   .exact ih
   split
   .rfl
   split<;>rfl
def ADg(s:ByteArray)(i0 i1:Nat)(neg:Bool):SS:=SS.run s i0 neg (i1-i0)
def UL(s:ByteArray)(i0 i1 i2:Nat)(neg eneg:Bool):CM:=
 { (ADg s i0 i1 neg).x with dp:=(if (ADg s i0 i1 neg).dot then(ADg s i0 i1 neg).x.dp else(ADg s i0 i1 neg).x.nd)+Q9 s i1 i2 eneg }
theorem AMa{s:ByteArray}{i0 i1 i2:Nat}{neg eneg:Bool}(h:Q3 s i0 i1 i2 neg eneg):(UL s i0 i1 i2 neg eneg).Ok (UL s i0 i1 i2 neg eneg).nd.toNat/\-300000<=(UL s i0 i1 i2 neg eneg).dp/\(UL s i0 i1 i2 neg eneg).dp<=300000:=by
 have hf:=SS.run_fine h (i1-i0) (by have:=h.some;omega);have he:=AE2 h;have h1:=h.small;have h2:=h.fits;obtain⟨⟨o1,o2,o3,o4,o5⟩,n0,l,u⟩:=hf;unfold UL ADg;refine⟨⟨o1,o2,o3,o4,o5⟩,?_,?_⟩
 .simp only;split<;>omega
 simp only;split<;>omega
theorem VB(n:Int)(w:World):(callFunc 163 #[.int .u64 n]).run Tryz.prog w=.ok (.value (.float .f64 n.toNat)) w:=Kr
theorem ANo(n:Nat)(w:World):(callFunc 63 #[.float .f64 n]).run Tryz.prog w=.ok (.value (.int .u64 n)) w:=Kr
def PS(b:Bool):Value:=if b then .iface 181 (.int .i64 1) else .nilIface
theorem UX:PS true=.iface 181 (.int .i64 1):=rfl
theorem AKg:PS false=.nilIface:=rfl
theorem AMn{a b c d:Value}(h1:a=c)(h2:b=d):Ending.returned (.tuple #[a,b])=.returned (.tuple #[c,d]):=by rw[h1,h2]
theorem ABa(m e:Int):∃(f:Nat) (er:Bool),∀w,Calls Tryz.prog 185 #[.int .u64 m,.int .i64 e] w λe w'=>e=.returned (.tuple #[.float .f64 f,PS er])/\w=w':=by
 have hd:=VB;by_cases h:bits .and .u64 m 4503599627370496=0
 .have h':(bits .and .u64 m 4503599627370496==0)=true:=by rw[beq_iff_eq];exact h
  clear h;exact⟨_,false,λw=>by go_enter Tryz.func185,Tryz.ntmps185;go_wp2_with fail;go_ret2;exact⟨rfl,rfl⟩⟩
 have h':(bits .and .u64 m 4503599627370496==0)=false:=by rw[Bn];exact h
 clear h;by_cases h2:e≥972
 .exact⟨_,true,λw=>by
   rw[UX];go_enter Tryz.func185,Tryz.ntmps185;go_wp2_with fail;go_ret2;refine⟨AMn ?_ ?_,rfl⟩
   .simp only[Array.getD_eq_getD_getElem?]
    exact rfl
   exact rfl⟩
 have h2':decide (e≥972)=false:=decide_eq_false h2;clear h2;exact⟨_,false,λw=>by go_enter Tryz.func185,Tryz.ntmps185;go_wp2_with fail;go_ret2;exact⟨rfl,rfl⟩⟩
theorem RY(b:Bool)(w:World):Calls Tryz.prog 162 #[.bool b] w λe w'=>e=.returned (.int .u64 (if b then 1 else 0))/\w=w':=by
 cases b
 .go_enter Tryz.func162,Tryz.ntmps162
  go_wp2_with fail;go_ret;exact⟨rfl,rfl⟩
 go_enter Tryz.func162,Tryz.ntmps162;go_wp2_with fail;go_ret;exact⟨rfl,rfl⟩
theorem AGp(b:Bool)(w:World):Calls Tryz.prog 179 #[.bool b] w λe w'=>e=.returned (.int .i64 (if b then 1 else 0))/\w=w':=by
 cases b
 .go_enter Tryz.func179,Tryz.ntmps179
  go_wp2_with fail;go_ret;exact⟨rfl,rfl⟩
 go_enter Tryz.func179,Tryz.ntmps179;go_wp2_with fail;go_ret;exact⟨rfl,rfl⟩
theorem AAg:∃r:Int,∀w,Calls Tryz.prog 180 #[.int .u64 9007199254740992] w λe w'=>e=.returned (.int .u64 r)/\w=w':=by
 exact⟨_,λw=>by go_enter Tryz.func180,Tryz.ntmps180;go_wp2_with fail;go_ret;exact⟨rfl,rfl⟩⟩
theorem SM(u:Int):∃r:Int,∀w,Calls Tryz.prog 182 #[.int .u64 u] w λe w'=>e=.returned (.int .u64 r)/\w=w':=by
 exact⟨_,λw=>by go_enter Tryz.func182,Tryz.ntmps182;go_wp2_with fail;go_ret;exact⟨rfl,rfl⟩⟩
theorem ACy(x:Int)(h0:-400<=x)(h1:x<=400):∃r:Int,-2000<=r/\r<=2000/\∀w,Calls Tryz.prog 176 #[.int .i64 x] w λe w'=>e=.returned (.int .i64 r)/\w=w':=by refine⟨x*108853/32768,Om,Om,λw=>?_⟩;go_enter Tryz.func176,Tryz.ntmps176;go_wp2_with fail;go_ret;exact⟨rfl,rfl⟩
