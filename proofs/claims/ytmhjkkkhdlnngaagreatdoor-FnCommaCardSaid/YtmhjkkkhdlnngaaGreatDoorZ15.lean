/- FnComma: a last comma changes nothing; for every world. Part 15. -/
import Derived.Test.YtmhjkkkhdlnngaaGreatDoorZ14
import Derived.Shelf.Strings.BuilderRune
import Derived.Shelf.Small.Utf8
import Derived.Shelf.Strconv.ParseIntPublic10
import Derived.Shelf.Strings.Prefix
import Derived.Shelf.Slices.Turned
import Derived.Shelf.LaysM
import Derived.Shelf.LaysC
import Derived.Shelf.Bytes.LenAt
import Derived.Shelf.Bytes.StringAt
import Derived.Shelf.Bytes.GrowAt
import Derived.Laws.AppendOwn
set_option linter.all false
set_option maxRecDepth 100000
set_option maxHeartbeats 40000000
namespace Go.Proofs
open Go.Shelf
def Tryz.lays169_ren:Go.Shelf.Ren:=⟨fun | 169=>188 | n=>n,fun | 70=>358 | 9=>9 | 0=>0 | 72=>360 | 37=>78 | 127=>370 | 3=>3 | 5=>5 | n=>n,fun | n=>n⟩
theorem Tryz.lays169:Go.Proofs.Lays.n169 Tryz.prog Tryz.lays169_ren:={
 mixed:=by kernel_rfl
 f169:=Tryz.func188.trans (congrArg some (by kernel_rfl))
 t0:=Tryz.underlying0
 a0:=Tryz.isAgg0
 z0:=Tryz.sizeOf0
 v0:=Tryz.zeroValue0
 t3:=Tryz.underlying3
 a3:=Tryz.isAgg3
 z3:=Tryz.sizeOf3
 v3:=Tryz.zeroValue3
 t9:=Tryz.underlying9
 a9:=Tryz.isAgg9
 z9:=Tryz.sizeOf9
 v9:=Tryz.zeroValue9
 t37:=Tryz.underlying78
 a37:=Tryz.isAgg78
 z37:=Tryz.sizeOf78
 v37:=Tryz.zeroValue78
 t70:=Tryz.underlying358
 a70:=Tryz.isAgg358
 z70:=Tryz.sizeOf358
 v70:=Tryz.zeroValue358
 t72:=Tryz.underlying360
 a72:=Tryz.isAgg360
 z72:=Tryz.sizeOf360
 v72:=Tryz.zeroValue360
 t127:=Tryz.underlying370
 a127:=Tryz.isAgg370
 z127:=Tryz.sizeOf370
 v127:=Tryz.zeroValue370}
theorem Tryz.Builder_Extra_169:Builder.Extra Tryz.prog Tryz.lays169_ren:={
 sizeBuilder:=by kernel_rfl
 liesBuilder:=by kernel_rfl
 t5:=Tryz.underlying5
 a5:=Tryz.isAgg5
 z5:=Tryz.sizeOf5
 v5:=Tryz.zeroValue5
 infoByte:=by kernel_rfl
 cellsByte:=by kernel_rfl
 sizeByte:=by kernel_rfl
 neB5:=by decide}
def Tryz.lays119_ren:Go.Shelf.Ren:=⟨fun | 119=>205 | n=>n,fun | 21=>21 | 4=>4 | n=>n,fun | n=>n⟩
theorem Tryz.lays119:Go.Proofs.Lays.n119 Tryz.prog Tryz.lays119_ren:={
 mixed:=by kernel_rfl
 f119:=Tryz.func205.trans (congrArg some (by kernel_rfl))
 t4:=Tryz.underlying4
 a4:=Tryz.isAgg4
 z4:=Tryz.sizeOf4
 v4:=Tryz.zeroValue4
 t21:=Tryz.underlying21
 a21:=Tryz.isAgg21
 z21:=Tryz.sizeOf21
 v21:=Tryz.zeroValue21}
theorem Tryz.utf8_ValidRune(r:Int)(w:World) :
  Calls Tryz.prog 205 #[.int .i32 r] w fun e w'=>e=.returned (.bool (Lib.validRune r))∧w'=w:=Any.utf8_ValidRune Tryz.lays119 r w
open Go.RowKit in
theorem Tryz.Builder_String_any_k(B b:Nat)(l:List UInt8)(w:World)(h:Lib.IsBuilderF 360 5 B b (Lib.byteCells l) w)(hBw:B≤w.heap.size) :
  Calls Tryz.prog 188 #[.pointer (some ⟨b,0,none⟩)] w fun e w'=>e=.returned (.string ⟨l.toArray⟩)∧(Lib.IsBuilderF 360 5 B b (Lib.byteCells l) w'∧Below B w w'∧Lib.OthersKept 5 (some b) w w'):=Any.Builder_String_any_k Tryz.lays169 Tryz.Builder_Extra_169 B b l w h hBw
def Tryz.laysM181_ren:Go.Shelf.Ren:=⟨fun | 181=>165 | n=>n,fun | 130=>155 | 3=>3 | 0=>0 | 93=>247 | 37=>78 | 91=>245 | 5=>5 | n=>n,fun | n=>n⟩
theorem Tryz.laysM181:Go.Proofs.LaysM.n181 Tryz.prog Tryz.laysM181_ren:={
 mixed:=by kernel_rfl
 f181:=Tryz.func165.trans (congrArg some (by kernel_rfl))
 t0:=Tryz.underlying0
 a0:=Tryz.isAgg0
 z0:=Tryz.sizeOf0
 v0:=Tryz.zeroValue0
 t3:=Tryz.underlying3
 a3:=Tryz.isAgg3
 z3:=Tryz.sizeOf3
 v3:=Tryz.zeroValue3
 t37:=Tryz.underlying78
 a37:=Tryz.isAgg78
 z37:=Tryz.sizeOf78
 v37:=Tryz.zeroValue78
 t93:=Tryz.underlying247
 a93:=Tryz.isAgg247
 z93:=Tryz.sizeOf247
 v93:=Tryz.zeroValue247
 t130:=Tryz.underlying155
 a130:=Tryz.isAgg155
 z130:=Tryz.sizeOf155
 v130:=Tryz.zeroValue155
 t5:=Tryz.underlying5
 a5:=Tryz.isAgg5
 z5:=Tryz.sizeOf5
 v5:=Tryz.zeroValue5
 t91:=Tryz.underlying245
 a91:=Tryz.isAgg245
 z91:=Tryz.sizeOf245
 v91:=Tryz.zeroValue245
 i0:=by kernel_rfl
 i3:=by kernel_rfl
 i5:=by kernel_rfl
 i37:=by kernel_rfl
 i91:=by kernel_rfl
 i93:=by kernel_rfl
 i130:=by kernel_rfl}
def Tryz.laysM251_ren:Go.Shelf.Ren:=⟨fun | 251=>180 | n=>n,fun | 130=>155 | 3=>3 | 4=>4 | 0=>0 | 93=>247 | 37=>78 | 91=>245 | 5=>5 | n=>n,fun | n=>n⟩
theorem Tryz.laysM251:Go.Proofs.LaysM.n251 Tryz.prog Tryz.laysM251_ren:={
 mixed:=by kernel_rfl
 f251:=Tryz.func180.trans (congrArg some (by kernel_rfl))
 t0:=Tryz.underlying0
 a0:=Tryz.isAgg0
 z0:=Tryz.sizeOf0
 v0:=Tryz.zeroValue0
 t3:=Tryz.underlying3
 a3:=Tryz.isAgg3
 z3:=Tryz.sizeOf3
 v3:=Tryz.zeroValue3
 t4:=Tryz.underlying4
 a4:=Tryz.isAgg4
 z4:=Tryz.sizeOf4
 v4:=Tryz.zeroValue4
 t37:=Tryz.underlying78
 a37:=Tryz.isAgg78
 z37:=Tryz.sizeOf78
 v37:=Tryz.zeroValue78
 t93:=Tryz.underlying247
 a93:=Tryz.isAgg247
 z93:=Tryz.sizeOf247
 v93:=Tryz.zeroValue247
 t130:=Tryz.underlying155
 a130:=Tryz.isAgg155
 z130:=Tryz.sizeOf155
 v130:=Tryz.zeroValue155
 t5:=Tryz.underlying5
 a5:=Tryz.isAgg5
 z5:=Tryz.sizeOf5
 v5:=Tryz.zeroValue5
 t91:=Tryz.underlying245
 a91:=Tryz.isAgg245
 z91:=Tryz.sizeOf245
 v91:=Tryz.zeroValue245
 i0:=by kernel_rfl
 i3:=by kernel_rfl
 i4:=by kernel_rfl
 i5:=by kernel_rfl
 i37:=by kernel_rfl
 i91:=by kernel_rfl
 i93:=by kernel_rfl
 i130:=by kernel_rfl}
def Tryz.laysM252_ren:Go.Shelf.Ren:=⟨fun | 252=>181 | 181=>165 | 184=>123 | 251=>180 | 290=>198 | 324=>213 | n=>n,fun | 130=>155 | 3=>3 | 4=>4 | 0=>0 | 93=>247 | 131=>152 | 37=>78 | 75=>104 | 91=>245 | 20=>20 | 5=>5 | 80=>242 | 9=>9 | n=>n,fun | 14=>4 | n=>n⟩
theorem Tryz.laysM252:Go.Proofs.LaysM.n252 Tryz.prog Tryz.laysM252_ren:={
 mixed:=by kernel_rfl
 f181:=Tryz.func165.trans (congrArg some (by kernel_rfl))
 f184:=Tryz.func123.trans (congrArg some (by kernel_rfl))
 f251:=Tryz.func180.trans (congrArg some (by kernel_rfl))
 f252:=Tryz.func181.trans (congrArg some (by kernel_rfl))
 f290:=Tryz.func198.trans (congrArg some (by kernel_rfl))
 f324:=Tryz.func213.trans (congrArg some (by kernel_rfl))
 t0:=Tryz.underlying0
 a0:=Tryz.isAgg0
 z0:=Tryz.sizeOf0
 v0:=Tryz.zeroValue0
 t3:=Tryz.underlying3
 a3:=Tryz.isAgg3
 z3:=Tryz.sizeOf3
 v3:=Tryz.zeroValue3
 t4:=Tryz.underlying4
 a4:=Tryz.isAgg4
 z4:=Tryz.sizeOf4
 v4:=Tryz.zeroValue4
 t20:=Tryz.underlying20
 a20:=Tryz.isAgg20
 z20:=Tryz.sizeOf20
 v20:=Tryz.zeroValue20
 t37:=Tryz.underlying78
 a37:=Tryz.isAgg78
 z37:=Tryz.sizeOf78
 v37:=Tryz.zeroValue78
 t75:=Tryz.underlying104
 a75:=Tryz.isAgg104
 z75:=Tryz.sizeOf104
 v75:=Tryz.zeroValue104
 t91:=Tryz.underlying245
 a91:=Tryz.isAgg245
 z91:=Tryz.sizeOf245
 v91:=Tryz.zeroValue245
 t93:=Tryz.underlying247
 a93:=Tryz.isAgg247
 z93:=Tryz.sizeOf247
 v93:=Tryz.zeroValue247
 t130:=Tryz.underlying155
 a130:=Tryz.isAgg155
 z130:=Tryz.sizeOf155
 v130:=Tryz.zeroValue155
 t131:=Tryz.underlying152
 a131:=Tryz.isAgg152
 z131:=Tryz.sizeOf152
 v131:=Tryz.zeroValue152
 g14:=by kernel_rfl
 t5:=Tryz.underlying5
 a5:=Tryz.isAgg5
 z5:=Tryz.sizeOf5
 v5:=Tryz.zeroValue5
 t9:=Tryz.underlying9
 a9:=Tryz.isAgg9
 z9:=Tryz.sizeOf9
 v9:=Tryz.zeroValue9
 t80:=Tryz.underlying242
 a80:=Tryz.isAgg242
 z80:=Tryz.sizeOf242
 v80:=Tryz.zeroValue242
 i0:=by kernel_rfl
 i3:=by kernel_rfl
 i4:=by kernel_rfl
 i5:=by kernel_rfl
 i9:=by kernel_rfl
 i20:=by kernel_rfl
 i37:=by kernel_rfl
 i75:=by kernel_rfl
 i80:=by kernel_rfl
 i91:=by kernel_rfl
 i93:=by kernel_rfl
 i130:=by kernel_rfl
 i131:=by kernel_rfl
 m14:=by kernel_rfl}
def Tryz.laysM182_ren:Go.Shelf.Ren:=⟨fun | 182=>166 | n=>n,fun | 130=>155 | 9=>9 | 4=>4 | 0=>0 | 93=>247 | 37=>78 | 3=>3 | 91=>245 | 5=>5 | n=>n,fun | n=>n⟩
theorem Tryz.laysM182:Go.Proofs.LaysM.n182 Tryz.prog Tryz.laysM182_ren:={
 mixed:=by kernel_rfl
 f182:=Tryz.func166.trans (congrArg some (by kernel_rfl))
 t0:=Tryz.underlying0
 a0:=Tryz.isAgg0
 z0:=Tryz.sizeOf0
 v0:=Tryz.zeroValue0
 t3:=Tryz.underlying3
 a3:=Tryz.isAgg3
 z3:=Tryz.sizeOf3
 v3:=Tryz.zeroValue3
 t4:=Tryz.underlying4
 a4:=Tryz.isAgg4
 z4:=Tryz.sizeOf4
 v4:=Tryz.zeroValue4
 t9:=Tryz.underlying9
 a9:=Tryz.isAgg9
 z9:=Tryz.sizeOf9
 v9:=Tryz.zeroValue9
 t37:=Tryz.underlying78
 a37:=Tryz.isAgg78
 z37:=Tryz.sizeOf78
 v37:=Tryz.zeroValue78
 t93:=Tryz.underlying247
 a93:=Tryz.isAgg247
 z93:=Tryz.sizeOf247
 v93:=Tryz.zeroValue247
 t130:=Tryz.underlying155
 a130:=Tryz.isAgg155
 z130:=Tryz.sizeOf155
 v130:=Tryz.zeroValue155
 t5:=Tryz.underlying5
 a5:=Tryz.isAgg5
 z5:=Tryz.sizeOf5
 v5:=Tryz.zeroValue5
 t91:=Tryz.underlying245
 a91:=Tryz.isAgg245
 z91:=Tryz.sizeOf245
 v91:=Tryz.zeroValue245
 i0:=by kernel_rfl
 i3:=by kernel_rfl
 i4:=by kernel_rfl
 i5:=by kernel_rfl
 i9:=by kernel_rfl
 i37:=by kernel_rfl
 i91:=by kernel_rfl
 i93:=by kernel_rfl
 i130:=by kernel_rfl}
def Tryz.laysC174_ren:Go.Shelf.Ren:=⟨fun | 174=>246 | 247=>254 | 245=>255 | 287=>264 | 279=>265 | 280=>266 | 281=>267 | 282=>268 | 321=>293 | 322=>294 | 316=>295 | 171=>296 | 205=>141 | 243=>307 | 246=>310 | 283=>311 | 284=>312 | 285=>313 | 286=>314 | 129=>316 | 317=>315 | 318=>317 | 319=>318 | 320=>319 | 337=>320 | 338=>321 | n=>n,fun | 9=>9 | 3=>3 | 2=>2 | 75=>104 | 85=>391 | 4=>4 | 167=>403 | 5=>5 | 53=>24 | 175=>404 | 46=>162 | 168=>406 | 37=>78 | 0=>0 | 210=>427 | 21=>21 | 127=>370 | 145=>348 | 143=>346 | 171=>443 | 173=>446 | 212=>449 | 51=>25 | 20=>20 | 213=>450 | 232=>453 | 233=>454 | 80=>242 | n=>n,fun | 15=>5 | 16=>6 | 17=>7 | 18=>8 | 19=>9 | n=>n⟩
theorem Tryz.laysC174:Go.Proofs.LaysC.n174 Tryz.prog Tryz.laysC174_ren:={
 mixed:=by kernel_rfl
 f129:=Tryz.func316.trans (congrArg some (by kernel_rfl))
 f171:=Tryz.func296.trans (congrArg some (by kernel_rfl))
 f174:=Tryz.func246.trans (congrArg some (by kernel_rfl))
 f205:=Tryz.func141.trans (congrArg some (by kernel_rfl))
 f243:=Tryz.func307.trans (congrArg some (by kernel_rfl))
 f245:=Tryz.func255.trans (congrArg some (by kernel_rfl))
 f246:=Tryz.func310.trans (congrArg some (by kernel_rfl))
 f247:=Tryz.func254.trans (congrArg some (by kernel_rfl))
 f279:=Tryz.func265.trans (congrArg some (by kernel_rfl))
 f280:=Tryz.func266.trans (congrArg some (by kernel_rfl))
 f281:=Tryz.func267.trans (congrArg some (by kernel_rfl))
 f282:=Tryz.func268.trans (congrArg some (by kernel_rfl))
 f283:=Tryz.func311.trans (congrArg some (by kernel_rfl))
 f284:=Tryz.func312.trans (congrArg some (by kernel_rfl))
 f285:=Tryz.func313.trans (congrArg some (by kernel_rfl))
 f286:=Tryz.func314.trans (congrArg some (by kernel_rfl))
 f287:=Tryz.func264.trans (congrArg some (by kernel_rfl))
 f316:=Tryz.func295.trans (congrArg some (by kernel_rfl))
 f317:=Tryz.func315.trans (congrArg some (by kernel_rfl))
 f318:=Tryz.func317.trans (congrArg some (by kernel_rfl))
 f319:=Tryz.func318.trans (congrArg some (by kernel_rfl))
 f320:=Tryz.func319.trans (congrArg some (by kernel_rfl))
 f321:=Tryz.func293.trans (congrArg some (by kernel_rfl))
 f322:=Tryz.func294.trans (congrArg some (by kernel_rfl))
 f337:=Tryz.func320.trans (congrArg some (by kernel_rfl))
 f338:=Tryz.func321.trans (congrArg some (by kernel_rfl))
 t0:=Tryz.underlying0
 a0:=Tryz.isAgg0
 z0:=Tryz.sizeOf0
 v0:=Tryz.zeroValue0
 t2:=Tryz.underlying2
 a2:=Tryz.isAgg2
 z2:=Tryz.sizeOf2
 v2:=Tryz.zeroValue2
 t3:=Tryz.underlying3
 a3:=Tryz.isAgg3
 z3:=Tryz.sizeOf3
 v3:=Tryz.zeroValue3
 t4:=Tryz.underlying4
 a4:=Tryz.isAgg4
 z4:=Tryz.sizeOf4
 v4:=Tryz.zeroValue4
 t5:=Tryz.underlying5
 a5:=Tryz.isAgg5
 z5:=Tryz.sizeOf5
 v5:=Tryz.zeroValue5
 t9:=Tryz.underlying9
 a9:=Tryz.isAgg9
 z9:=Tryz.sizeOf9
 v9:=Tryz.zeroValue9
 t20:=Tryz.underlying20
 a20:=Tryz.isAgg20
 z20:=Tryz.sizeOf20
 v20:=Tryz.zeroValue20
 t21:=Tryz.underlying21
 a21:=Tryz.isAgg21
 z21:=Tryz.sizeOf21
 v21:=Tryz.zeroValue21
 t37:=Tryz.underlying78
 a37:=Tryz.isAgg78
 z37:=Tryz.sizeOf78
 v37:=Tryz.zeroValue78
 t46:=Tryz.underlying162
 a46:=Tryz.isAgg162
 z46:=Tryz.sizeOf162
 v46:=Tryz.zeroValue162
 t51:=Tryz.underlying25
 a51:=Tryz.isAgg25
 z51:=Tryz.sizeOf25
 v51:=Tryz.zeroValue25
 t53:=Tryz.underlying24
 a53:=Tryz.isAgg24
 z53:=Tryz.sizeOf24
 v53:=Tryz.zeroValue24
 t75:=Tryz.underlying104
 a75:=Tryz.isAgg104
 z75:=Tryz.sizeOf104
 v75:=Tryz.zeroValue104
 t85:=Tryz.underlying391
 a85:=Tryz.isAgg391
 z85:=Tryz.sizeOf391
 v85:=Tryz.zeroValue391
 t127:=Tryz.underlying370
 a127:=Tryz.isAgg370
 z127:=Tryz.sizeOf370
 v127:=Tryz.zeroValue370
 t143:=Tryz.underlying346
 a143:=Tryz.isAgg346
 z143:=Tryz.sizeOf346
 v143:=Tryz.zeroValue346
 t145:=Tryz.underlying348
 a145:=Tryz.isAgg348
 z145:=Tryz.sizeOf348
 v145:=Tryz.zeroValue348
 t167:=Tryz.underlying403
 a167:=Tryz.isAgg403
 z167:=Tryz.sizeOf403
 v167:=Tryz.zeroValue403
 t168:=Tryz.underlying406
 a168:=Tryz.isAgg406
 z168:=Tryz.sizeOf406
 v168:=Tryz.zeroValue406
 t171:=Tryz.underlying443
 a171:=Tryz.isAgg443
 z171:=Tryz.sizeOf443
 v171:=Tryz.zeroValue443
 t173:=Tryz.underlying446
 a173:=Tryz.isAgg446
 z173:=Tryz.sizeOf446
 v173:=Tryz.zeroValue446
 t175:=Tryz.underlying404
 a175:=Tryz.isAgg404
 z175:=Tryz.sizeOf404
 v175:=Tryz.zeroValue404
 t210:=Tryz.underlying427
 a210:=Tryz.isAgg427
 z210:=Tryz.sizeOf427
 v210:=Tryz.zeroValue427
 t212:=Tryz.underlying449
 a212:=Tryz.isAgg449
 z212:=Tryz.sizeOf449
 v212:=Tryz.zeroValue449
 t213:=Tryz.underlying450
 a213:=Tryz.isAgg450
 z213:=Tryz.sizeOf450
 t232:=Tryz.underlying453
 a232:=Tryz.isAgg453
 z232:=Tryz.sizeOf453
 v232:=Tryz.zeroValue453
 t233:=Tryz.underlying454
 a233:=Tryz.isAgg454
 z233:=Tryz.sizeOf454
 v233:=Tryz.zeroValue454
 g15:=by kernel_rfl
 g16:=by kernel_rfl
 g17:=by kernel_rfl
 g18:=by kernel_rfl
 g19:=by kernel_rfl
 t80:=Tryz.underlying242
 a80:=Tryz.isAgg242
 z80:=Tryz.sizeOf242
 v80:=Tryz.zeroValue242
 i0:=by kernel_rfl
 i2:=by kernel_rfl
 i3:=by kernel_rfl
 i4:=by kernel_rfl
 i5:=by kernel_rfl
 i9:=by kernel_rfl
 i20:=by kernel_rfl
 i21:=by kernel_rfl
 i37:=by kernel_rfl
 i46:=by kernel_rfl
 i51:=by kernel_rfl
 i53:=by kernel_rfl
 i75:=by kernel_rfl
 i80:=by kernel_rfl
 i85:=by kernel_rfl
 i127:=by kernel_rfl
 i143:=by kernel_rfl
 i145:=by kernel_rfl
 i167:=by kernel_rfl
 i168:=by kernel_rfl
 i171:=by kernel_rfl
 i173:=by kernel_rfl
 i175:=by kernel_rfl
 i210:=by kernel_rfl
 i212:=by kernel_rfl
 i232:=by kernel_rfl
 i233:=by kernel_rfl
 m15:=by kernel_rfl
 m16:=by kernel_rfl
 m17:=by kernel_rfl
 m18:=by kernel_rfl
 m19:=by kernel_rfl
 c0:=by kernel_rfl
 c2:=by kernel_rfl
 c3:=by kernel_rfl
 c4:=by kernel_rfl
 c5:=by kernel_rfl
 c9:=by kernel_rfl
 c20:=by kernel_rfl
 c21:=by kernel_rfl
 c37:=by kernel_rfl
 c46:=by kernel_rfl
 c51:=by kernel_rfl
 c53:=by kernel_rfl
 c75:=by kernel_rfl
 c80:=by kernel_rfl
 c85:=by kernel_rfl
 c127:=by kernel_rfl
 c143:=by kernel_rfl
 c145:=by kernel_rfl
 c167:=by kernel_rfl
 c168:=by kernel_rfl
 c171:=by kernel_rfl
 c173:=by kernel_rfl
 c175:=by kernel_rfl
 c210:=by kernel_rfl
 c212:=by kernel_rfl
 c213:=by kernel_rfl
 c232:=by kernel_rfl
 c233:=by kernel_rfl}
open Go.RowKit in
theorem Tryz.strconv_ParseInt_10_at64_ok(s:ByteArray)(hmax:s.size≤9223372036854775806)(v:Int)(h:Lib.parseIntB 64 s.data.toList=.ok v)(w:World) :
  Calls Tryz.prog 246 #[.string s,.int .i64 10,.int .i64 64] w fun e w'=>e=.returned (.tuple #[.int .i64 v,.nilIface])∧(w'=w∨∃t,w'=Lib.bytesWorld w 5 t):=Any.strconv_ParseInt_10_at64_ok Tryz.laysC174 s hmax v h w
open Go.RowKit in
theorem Tryz.strconv_ParseInt_10_at64_syn(s:ByteArray)(hlim:s.size≤281474976710656)(r:Lib.NumEnd Int)(h:Lib.parseIntB 64 s.data.toList=r)(h1:∀v,r≠.ok v)(h2:r≠.range)(ev:Value)(w:World)(hv:w.cell? ⟨5,0,none⟩=some ev)(hev:ev=.nilIface∨∃te pe,ev=.iface te pe) :
  Calls Tryz.prog 246 #[.string s,.int .i64 10,.int .i64 64] w fun e w'=>∃N,e=.returned (.tuple #[.int .i64 (0),.iface 406 (.pointer (some ⟨N,0,none⟩))])∧w.heap.size≤N∧w'.heap[N]? =some (.cells #[.string ⟨#[80,97,114,115,101,73,110,116]⟩,.string s,ev] 427 (0,0))∧Below w.heap.size w w':=by
 rcases r with v | _ | _
 ·exact absurd rfl (h1 v)
 ·exact Any.strconv_ParseInt_10_at64_syntax Tryz.laysC174 s hlim h ev w hv hev
 ·exact absurd rfl h2
open Go.RowKit in
theorem Tryz.strconv_ParseInt_10_at64_range(s:ByteArray)(hlim:s.size≤281474976710656)(h:Lib.parseIntB 64 s.data.toList=.range)(ev:Value)(w:World)(hv:w.cell? ⟨6,0,none⟩=some ev)(hev:ev=.nilIface∨∃te pe,ev=.iface te pe) :
  Calls Tryz.prog 246 #[.string s,.int .i64 10,.int .i64 64] w fun e w'=>∃N,e=.returned (.tuple #[.int .i64 (Lib.intSat 64 s.data.toList),.iface 406 (.pointer (some ⟨N,0,none⟩))])∧w.heap.size≤N∧w'.heap[N]? =some (.cells #[.string ⟨#[80,97,114,115,101,73,110,116]⟩,.string s,ev] 427 (0,0))∧Below w.heap.size w w':=Any.strconv_ParseInt_10_at64_range Tryz.laysC174 s hlim h ev w hv hev
open Go.RowKit in
theorem Tryz.Buffer_Len_at(T:TypeId)(R:Nat→Option Value)(B b q:Nat)(bs:List Value)(w:World)(h:LibA.IsBuffer T R 5 B b q bs w) :
  Calls Tryz.prog 165 #[.pointer (some ⟨b,q,none⟩)] w fun e w'=>e=.returned (.int .i64 bs.length)∧∃n,w'=w.drewN n:=Any.Buffer_Len_at Tryz.laysM181 T R B b q bs w h
open Go.RowKit in
theorem Tryz.Buffer_String_at(T:TypeId)(R:Nat→Option Value)(B b q:Nat)(l:List UInt8)(w:World)(h:LibA.IsBuffer T R 5 B b q (Lib.byteCells l) w) :
  Calls Tryz.prog 166 #[.pointer (some ⟨b,q,none⟩)] w fun e w'=>e=.returned (.string ⟨l.toArray⟩)∧∃n,w'=w.drewN n:=Any.Buffer_String_at Tryz.laysM182 T R B b q l w h
open Go.RowKit in
theorem Tryz.Buffer_tryGrow_at(T:TypeId)(R:Nat→Option Value)(B b q n:Nat)(bs:List Value)(w:World)(h:LibA.IsBuffer T R 5 B b q bs w) :
  Calls Tryz.prog 180 #[.pointer (some ⟨b,q,none⟩),.int .i64 n] w fun e w' =>
   (e=.returned (.tuple #[.int .i64 bs.length,.bool true])∧∃xs,xs.length=n∧LibA.IsBuffer T R 5 B b q (bs++xs) w'∧Below B w w'∧Lib.OthersKept 5 (some b) w w'∧w.grownBy w' (some b)) ∨
   (e=.returned (.tuple #[.int .i64 0,.bool false])∧w'=w∧LibA.NoRoom b q n w):=Any.Buffer_tryGrow_at Tryz.laysM251 T R B b q n bs w h
open Go.RowKit in
theorem Tryz.Buffer_grow_at(T:TypeId)(R:Nat→Option Value)(B b q n:Nat)(bs:List Value)(w:World)(h:LibA.IsBuffer T R 5 B b q bs w)(hnr:LibA.NoRoom b q n w)(hBw:B≤w.heap.size)(h1:∀v∈bs,v.oneCell'=true)(hlim:bs.length+n≤140737488355328) :
  Calls Tryz.prog 181 #[.pointer (some ⟨b,q,none⟩),.int .i64 n] w fun e w'=>e=.returned (.int .i64 bs.length)∧∃xs,xs.length=n∧LibA.IsBuffer T R 5 B b q (bs++xs) w'∧Below B w w'∧Lib.OthersKept 5 (some b) w w'∧w.grownBy w' (some b):=Any.Buffer_grow_at Tryz.laysM252 T R B b q n bs w h hnr hBw h1 hlim
def Tryz.lays101_ren:Go.Shelf.Ren:=⟨fun | 101=>169 | 208=>185 | 206=>200 | n=>n,fun | 9=>9 | 4=>4 | 3=>3 | n=>n,fun | n=>n⟩
theorem Tryz.lays101:Go.Proofs.Lays.n101 Tryz.prog Tryz.lays101_ren:={
 mixed:=by kernel_rfl
 f101:=Tryz.func169.trans (congrArg some (by kernel_rfl))
 f206:=Tryz.func200.trans (congrArg some (by kernel_rfl))
 f208:=Tryz.func185.trans (congrArg some (by kernel_rfl))
 t3:=Tryz.underlying3
 a3:=Tryz.isAgg3
 z3:=Tryz.sizeOf3
 v3:=Tryz.zeroValue3
 t4:=Tryz.underlying4
 a4:=Tryz.isAgg4
 z4:=Tryz.sizeOf4
 v4:=Tryz.zeroValue4
 t9:=Tryz.underlying9
 a9:=Tryz.isAgg9
 z9:=Tryz.sizeOf9
 v9:=Tryz.zeroValue9}
open Go.RowKit Go.Lib in
theorem Tryz.strings_TrimPrefix(s p:ByteArray)(w:World) :
  Calls Tryz.prog 169 #[.string s,.string p] w fun e w'=>e=.returned (.string ⟨(Lib.trimPrefix s.data.toList p.data.toList).toArray⟩)∧w'=w:=Any.strings_TrimPrefix Tryz.lays101 s p w
def Tryz.lays102_ren:Go.Shelf.Ren:=⟨fun | 102=>170 | 209=>186 | 207=>201 | n=>n,fun | 9=>9 | 4=>4 | 3=>3 | n=>n,fun | n=>n⟩
theorem Tryz.lays102:Go.Proofs.Lays.n102 Tryz.prog Tryz.lays102_ren:={
 mixed:=by kernel_rfl
 f102:=Tryz.func170.trans (congrArg some (by kernel_rfl))
 f207:=Tryz.func201.trans (congrArg some (by kernel_rfl))
 f209:=Tryz.func186.trans (congrArg some (by kernel_rfl))
 t3:=Tryz.underlying3
 a3:=Tryz.isAgg3
 z3:=Tryz.sizeOf3
 v3:=Tryz.zeroValue3
 t4:=Tryz.underlying4
 a4:=Tryz.isAgg4
 z4:=Tryz.sizeOf4
 v4:=Tryz.zeroValue4
 t9:=Tryz.underlying9
 a9:=Tryz.isAgg9
 z9:=Tryz.sizeOf9
 v9:=Tryz.zeroValue9}
open Go.RowKit Go.Lib in
theorem Tryz.strings_TrimSuffix(s p:ByteArray)(w:World)(hs:s.size≤9223372036854775807) :
  Calls Tryz.prog 170 #[.string s,.string p] w fun e w'=>e=.returned (.string ⟨(Lib.trimSuffix s.data.toList p.data.toList).toArray⟩)∧w'=w:=Any.strings_TrimSuffix Tryz.lays102 s p w hs
def Tryz.lays110_ren:Go.Shelf.Ren:=⟨fun | 110=>167 | 109=>184 | n=>n,fun | 31=>27 | 9=>9 | 4=>4 | 3=>3 | 0=>0 | n=>n,fun | n=>n⟩
theorem Tryz.lays110:Go.Proofs.Lays.n110 Tryz.prog Tryz.lays110_ren:={
 mixed:=by kernel_rfl
 f109:=Tryz.func184.trans (congrArg some (by kernel_rfl))
 f110:=Tryz.func167.trans (congrArg some (by kernel_rfl))
 t0:=Tryz.underlying0
 a0:=Tryz.isAgg0
 z0:=Tryz.sizeOf0
 v0:=Tryz.zeroValue0
 t3:=Tryz.underlying3
 a3:=Tryz.isAgg3
 z3:=Tryz.sizeOf3
 v3:=Tryz.zeroValue3
 t4:=Tryz.underlying4
 a4:=Tryz.isAgg4
 z4:=Tryz.sizeOf4
 v4:=Tryz.zeroValue4
 t9:=Tryz.underlying9
 a9:=Tryz.isAgg9
 z9:=Tryz.sizeOf9
 v9:=Tryz.zeroValue9
 t31:=Tryz.underlying27
 a31:=Tryz.isAgg27
 z31:=Tryz.sizeOf27
 v31:=Tryz.zeroValue27}
open Go.Lib in
theorem Tryz.slices_Contains_string(b off n c:Nat)(zs:List ByteArray)(x:ByteArray)(w:World)(hz:n≤zs.length)(hbig:n≤9223372036854775807)(hc:∀j,j<zs.length→w.cell? ⟨b,off+j,none⟩=some (.string (zs.getD j ByteArray.empty))) :
  Calls Tryz.prog 167 #[.slice (some ⟨b,off,none⟩) n c,.string x] w fun e w'=>e=.returned (.bool (Lib.containsS (zs.take n) x))∧w'=w:=Any.slices_Contains_string Tryz.lays110 b off n c zs x w hz hbig hc
def Tryz.lays168_ren:Go.Shelf.Ren:=⟨fun | 168=>189 | 240=>202 | 242=>203 | 276=>215 | 278=>216 | n=>n,fun | 0=>0 | 3=>3 | 4=>4 | 5=>5 | 9=>9 | 20=>20 | 21=>21 | 37=>78 | 46=>162 | 51=>25 | 70=>358 | 72=>360 | 75=>104 | 164=>376 | 80=>242 | n=>n,fun | n=>n⟩
theorem Tryz.lays168:Go.Proofs.Lays.n168 Tryz.prog Tryz.lays168_ren:={
 mixed:=by kernel_rfl
 f168:=Tryz.func189.trans (congrArg some (by kernel_rfl))
 f240:=Tryz.func202.trans (congrArg some (by kernel_rfl))
 f242:=Tryz.func203.trans (congrArg some (by kernel_rfl))
 f276:=Tryz.func215.trans (congrArg some (by kernel_rfl))
 f278:=Tryz.func216.trans (congrArg some (by kernel_rfl))
 t0:=Tryz.underlying0
 a0:=Tryz.isAgg0
 z0:=Tryz.sizeOf0
 v0:=Tryz.zeroValue0
 t3:=Tryz.underlying3
 a3:=Tryz.isAgg3
 z3:=Tryz.sizeOf3
 v3:=Tryz.zeroValue3
 t4:=Tryz.underlying4
 a4:=Tryz.isAgg4
 z4:=Tryz.sizeOf4
 v4:=Tryz.zeroValue4
 t5:=Tryz.underlying5
 a5:=Tryz.isAgg5
 z5:=Tryz.sizeOf5
 v5:=Tryz.zeroValue5
 t9:=Tryz.underlying9
 a9:=Tryz.isAgg9
 z9:=Tryz.sizeOf9
 v9:=Tryz.zeroValue9
 t20:=Tryz.underlying20
 a20:=Tryz.isAgg20
 z20:=Tryz.sizeOf20
 v20:=Tryz.zeroValue20
 t21:=Tryz.underlying21
 a21:=Tryz.isAgg21
 z21:=Tryz.sizeOf21
 v21:=Tryz.zeroValue21
 t37:=Tryz.underlying78
 a37:=Tryz.isAgg78
 z37:=Tryz.sizeOf78
 v37:=Tryz.zeroValue78
 t46:=Tryz.underlying162
 a46:=Tryz.isAgg162
 z46:=Tryz.sizeOf162
 v46:=Tryz.zeroValue162
 t51:=Tryz.underlying25
 a51:=Tryz.isAgg25
 z51:=Tryz.sizeOf25
 v51:=Tryz.zeroValue25
 t70:=Tryz.underlying358
 a70:=Tryz.isAgg358
 z70:=Tryz.sizeOf358
 v70:=Tryz.zeroValue358
 t72:=Tryz.underlying360
 a72:=Tryz.isAgg360
 z72:=Tryz.sizeOf360
 v72:=Tryz.zeroValue360
 t75:=Tryz.underlying104
 a75:=Tryz.isAgg104
 z75:=Tryz.sizeOf104
 v75:=Tryz.zeroValue104
 t164:=Tryz.underlying376
 a164:=Tryz.isAgg376
 z164:=Tryz.sizeOf376
 v164:=Tryz.zeroValue376}
theorem Tryz.Builder_Extra_168:Builder.Extra Tryz.prog Tryz.lays168_ren:={
 sizeBuilder:=by kernel_rfl
 liesBuilder:=by kernel_rfl
 t5:=Tryz.underlying5
 a5:=Tryz.isAgg5
 z5:=Tryz.sizeOf5
 v5:=Tryz.zeroValue5
 infoByte:=by kernel_rfl
 cellsByte:=by kernel_rfl
 sizeByte:=by kernel_rfl
 neB5:=by decide}
open Go.RowKit in
theorem Tryz.Builder_WriteRune_k(B b:Nat)(bs:List Value)(r:Int)(hr0:-2147483648≤r)(hr1:r≤2147483647)(w:World)(h:Lib.IsBuilderF 360 5 B b bs w)(hlen:bs.length+4≤140737488355328)(hBw:B≤w.heap.size) :
  Calls Tryz.prog 189 #[.pointer (some ⟨b,0,none⟩),.int .i32 r] w fun e w'=>e=.returned (.tuple #[.int .i64 (Lib.runeCells r).length,.nilIface])∧(Lib.BuilderAtF 360 5 B b (.pointer (some ⟨b,0,none⟩)) (bs++Lib.runeCells r) w'∧Below B w w'∧Lib.OthersKept 5 (some b) w w'):=Any.Builder_WriteRune_k Tryz.lays168 Tryz.Builder_Extra_168 B b bs r hr0 hr1 w h hlen hBw
end Go.Proofs
namespace Go.Proofs.Pg
open Go.RowKit
attribute [local go_sem] Oper.semAt_some
def StrV(w:World)(r:Option ByteArray)(e:Ending)(w':World):Prop :=
 Below w.heap.size w w'∧match r with
 | none=>∃s T v,e=.returned (.tuple #[.string s,.iface T v])
 | some s=>e=.returned (.tuple #[.string s,.nilIface])∧s.size≤1000000
def IntV(w:World)(r:Option Int)(e:Ending)(w':World):Prop :=
 Below w.heap.size w w'∧match r with
 | none=>∃n T v,e=.returned (.tuple #[.int .i64 n,.iface T v])
 | some n=>e=.returned (.tuple #[.int .i64 n,.nilIface])
def PatV(base:Nat)(w:World)(r:Option (List (Bool×ByteArray)))(e:Ending)(w':World):Prop :=
 Below w.heap.size w w'∧match r with
 | none=>∃p n c T v,e=.returned (.tuple #[.agg #[.slice p n c],.iface T v])
 | some l=>∃p c,e=.returned (.tuple #[.agg #[.slice p l.length c],.nilIface])∧Row2At w' base 316 p l.length (fun i=>.bool (l.getD i (false,⟨#[]⟩)).1) (fun i=>.string (l.getD i (false,⟨#[]⟩)).2)
def Qdn(s:ByteArray):ByteArray:=⟨(Lib.trimSuffix (Lib.trimPrefix s.data.toList [34]) [34]).toArray⟩
structure LexC(L:Lex):Prop where
 str:∀(t:Tok)(w:World),Glob w→15≤w.heap.size→t.tx.size≤1000000→Calls Tryz.prog 138 #[t.val] w (StrV w (L.str t.tx))
 int:∀(s:ByteArray)(w:World),Glob w→15≤w.heap.size→s.size≤1000001→Calls Tryz.prog 246 #[.string s,.int .i64 10,.int .i64 64] w (IntV w (L.int s))
 pat:∀(base:Nat)(s:ByteArray)(w:World),Glob w→15≤w.heap.size→base≤w.heap.size→s.size≤1000000→Calls Tryz.prog 235 #[.string (Qdn s)] w (PatV base w (L.pat s))
def HasRel(bp base N R A C:Nat)(w:World)(Rm:Option (Ex×Toks))(wr:World):Prop :=
 ∃g y c vs T v T2 v2,hasL g y c vs=Rm∧vs.length<g∧Wf vs∧vs.length≤N∧PS wr bp base vs∧NodeIs wr base (.iface T v) y∧NodeIs wr base (.iface T2 v2) c∧wr.heap[A]? =some (.cells #[.iface T v] 299 (0,0))∧wr.heap[C]? =some (.cells #[.iface T2 v2] 299 (0,0))∧wr.heap[R]? =some (.cells #[.nilIface] 299 (0,0))∧Ext (·=bp) w wr
theorem has_w{L:Lex}(hL:LexC L){bp base N:Nat}:FnL 218 (has L) bp base N:=by
 intro w ts T v x hp hwf hN hbs hx_w;have hbb:=hp.hbp;have h15:=hp.h15;obtain⟨t,r,rfl⟩:∃t r,ts=t::r:=by cases ts with | nil=>exact absurd rfl hp.ne | cons t r=>exact⟨t,r,rfl⟩
 have hav:=(Qam hwf).len;have htz:=hp.sz;go_enter Tryz.func218,Tryz.ntmps218
 go_upto_region 1 with(fail)
 obtain⟨w1,hw⟩:∃w1,((w.alloc (.cells #[.iface T v] 299)).alloc (.cells #[.nilIface] 299))=w1:=⟨_,rfl⟩
 rw[hw];have hF:Below w.heap.size w w1:=by rw[←hw];exact(Qab w _).alloc (by simp) _
 have hL1:w1.heap[w.heap.size]? =some (.cells #[.iface T v] 299 (0,0)):=by rw[←hw];exact Qaf (Qah (by simp) _) _
 have hR1:w1.heap[w.heap.size+1]? =some (.cells #[.nilIface] 299 (0,0)):=by rw[←hw];exact Qah (by simp) _
 have hs1:w.heap.size+2≤w1.heap.size:=by rw[←hw];simp
 clear hw;have hx1:=hx_w.later hF;have hX1:Ext (·=bp) w w1:=.below hF;have hp1:=hp.below hF;clear hx_w hp;clear hF
 go_wp2_with fail
 refine(Qaz hp1).mono ?_;rintro e w2⟨rfl,hp2,hF⟩;have hx2:=hx1.keep hF (fun d hd=>by omega);have hL2:=hF.heap (by omega) hL1;have hR2:=hF.heap (by omega) hR1;have hs2:=hF.size;have hX2:=hX1.trans hF;clear hx1 hL1 hR1 hX1 hp1;clear hF
 go_upto_region 2 with(fail)
 obtain⟨w3,hw⟩:∃w3,w2.alloc (.cells #[.int .i64 t.ty,.string t.fn,.int .i64 t.off,.int .i64 t.ln,.int .i64 t.col,.string t.tx] 122)=w3:=⟨_,rfl⟩
 rw[hw];have hF:Below w2.heap.size w2 w3:=by rw[←hw];exact Qab _ _
 have hT3:w3.heap[w2.heap.size]? =some (.cells #[.int .i64 t.ty,.string t.fn,.int .i64 t.off,.int .i64 t.ln,.int .i64 t.col,.string t.tx] 122 (0,0)):=by rw[←hw];exact heap_alloc_new _ _
 have hs3:w2.heap.size+1≤w3.heap.size:=by rw[←hw];simp
 clear hw;have hx3:=hx2.later hF;have hL3:=Bk hF hL2;have hR3:=Bk hF hR2;have hX3:=hX2.trans (.below hF);have hp3:=hp2.below hF;clear hx2 hL2 hR2 hX2 hp2;clear hF;obtain⟨c_hT_0,c_hT_1,c_hT_2,c_hT_3,c_hT_4,c_hT_5⟩:=Cl6 hT3 rfl rfl rfl rfl rfl rfl
 go_wp2_with fail
 refine(Qbd t _).mono ?_;rintro e w4⟨rfl,hF⟩;have hx4:=hx3.later hF;have hL4:=Bk hF hL3;have hR4:=Bk hF hR3;have hT4:=Bk hF hT3;have hs4:=hF.size;have hX4:=hX3.trans (.below hF);have hp4:=hp3.below hF;clear hx3 hL3 hR3 hT3 hX3 hp3 c_hT_0 c_hT_1 c_hT_2 c_hT_3 c_hT_4 c_hT_5;clear hF;cases hi:(t.ty==1)with
 | true =>
  have c_hT_5:=Qaa (o:=5) hT4 rfl;have c_hL_0:=Qaa (o:=0) hL4 rfl
  go_wp2_with fail
  refine(Qgy _ _ _ _).mono ?_;rintro e w5⟨rfl,hF⟩;have hx5:=hx4.later hF;have hL5:=Bk hF hL4;have hR5:=Bk hF hR4;have hT5:=Bk hF hT4;have hs5:=hF.size;have hX5:=hX4.trans (.below hF);have hp5:=hp4.below hF;clear hx4 hL4 hR4 hT4 hX4 hp4 c_hT_5 c_hL_0;clear hF
  go_upto_region 5 with(fail)
  obtain⟨w6,hw⟩:∃w6,w5.alloc (.cells #[.iface 193 (.agg #[.iface T v,.string t.tx])] 299)=w6:=⟨_,rfl⟩
  rw[hw];have hF:Below w5.heap.size w5 w6:=by rw[←hw];exact Qab _ _
  have hA6:w6.heap[w5.heap.size]? =some (.cells #[.iface 193 (.agg #[.iface T v,.string t.tx])] 299 (0,0)):=by rw[←hw];exact heap_alloc_new _ _
  have hs6:w5.heap.size+1≤w6.heap.size:=by rw[←hw];simp
  clear hw;have hx6:=hx5.later hF;have hL6:=Bk hF hL5;have hR6:=Bk hF hR5;have hT6:=Bk hF hT5;have hX6:=hX5.trans (.below hF);have hp6:=hp5.below hF;clear hx5 hL5 hR5 hT5 hX5 hp5;clear hF;have c_hL_0:=Qaa (o:=0) hL6 rfl
  go_wp2_with fail
  refine(Qft _ _ _ _).mono ?_;rintro e w7⟨rfl,hF⟩;have hx7:=hx6.later hF;have hL7:=Bk hF hL6;have hR7:=Bk hF hR6;have hT7:=Bk hF hT6;have hA7:=Bk hF hA6;have hs7:=hF.size;have hX7:=hX6.trans (.below hF);have hp7:=hp6.below hF;clear hx6 hL6 hR6 hT6 hA6 hX6 hp6 c_hL_0;clear hF
  go_upto_region 6 with(fail)
  obtain⟨w8,hw⟩:∃w8,w7.alloc (.cells #[.iface 194 (.agg #[.iface T v,.string t.tx])] 299)=w8:=⟨_,rfl⟩
  rw[hw];have hF:Below w7.heap.size w7 w8:=by rw[←hw];exact Qab _ _
  have hC8:w8.heap[w7.heap.size]? =some (.cells #[.iface 194 (.agg #[.iface T v,.string t.tx])] 299 (0,0)):=by rw[←hw];exact heap_alloc_new _ _
  have hs8:w7.heap.size+1≤w8.heap.size:=by rw[←hw];simp
  clear hw;have hx8:=hx7.later hF;have hL8:=Bk hF hL7;have hR8:=Bk hF hR7;have hT8:=Bk hF hT7;have hA8:=Bk hF hA7;have hX8:=hX7.trans (.below hF);have hp8:=hp7.below hF;clear hx7 hL7 hR7 hT7 hA7 hX7 hp7;clear hF;have hfin:has L x (t::r)=hasL ((t::r).length+1) (.sop 193 x t.tx) (.sop 194 x t.tx) (adv (t::r)):=by unfold Pg.has;simp[ty,hd,hi]
  have HF:=Hi hfin;clear hfin;have hnA:NodeIs w8 base (.iface 193 (.agg #[.iface T v,.string t.tx])) (.sop 193 x t.tx):=.sop 193 _ _ _ hx8;have hnC:NodeIs w8 base (.iface 194 (.agg #[.iface T v,.string t.tx])) (.sop 194 x t.tx):=.sop 194 _ _ _ hx8
  go_loopw [28] (fun _ wr=>HasRel bp base (t::r).length (w.heap.size+1) (w5.heap.size) (w7.heap.size) w (hasL ((t::r).length+1) (.sop 193 x t.tx) (.sop 194 x t.tx) (adv (t::r))) wr) (fun _ wr=>left wr bp)
  case atStart=>exact⟨_,_,_,_,_,_,_,_,rfl,by omega,hwf.adv,hav,hp8,hnA,hnC,hA8,hC8,hR8,hX8⟩
  case round =>
   clear hx8 hL8 hR8 hT8 hA8 hC8 hp8 hX8 hnA hnC;obtain⟨wo,rfl⟩:∃wo:World,wo=wr:=⟨_,rfl⟩
   obtain⟨g,y,c,vs,Ty,vy,Tc,vc,hg,hgl,hvw,hvN,hp_wo,hy_wo,hc_wo,hA_wo,hC_wo,hR_wo,hX_wo⟩:=hrel;have HG:=Hi hg;clear hg;cases g with
   | zero=>omega
   | succ g =>
   obtain⟨u,q,rfl⟩:∃u q,vs=u::q:=by cases vs with | nil=>exact absurd rfl hp_wo.ne | cons u q=>exact⟨u,q,rfl⟩
   have HLF:=Hi hp_wo.left;have hsz_wo:=hX_wo.size;have ltA:=Qad hA_wo;have ltC:=Qad hC_wo;have ltR:=Qad hR_wo
   go_wp2_with fail
   refine(Qa7 hp_wo).mono ?_;rintro e w9⟨rfl,hF⟩;have hy9:=hy_wo.later hF;have hc9:=hc_wo.later hF;have hR9:=Bk hF hR_wo;have hA9:=Bk hF hA_wo;have hC9:=Bk hF hC_wo;have hs9:=hF.size;have hX9:=hX_wo.trans (.below hF);have hp9:=hp_wo.below hF;clear hy_wo hc_wo hR_wo hA_wo hC_wo hX_wo hp_wo;clear hF;cases ht:(u.tx.toList==[46])with
   | false =>
    have c_hA_0:=Qaa (o:=0) hA9 rfl;have lt_hA:=Qad hA9;have c_hR_0:=Qaa (o:=0) hR9 rfl;have f_hR:=Qae hR9 0;have lt_hR:=Qad hR9;have HR:=Hi (show has L x (t::r)=some (y,u::q)by rw[HF.out,←HG.out,hasL];simp[tx,ht]);have HB:=Hi hR9;clear hR9;go_wp2;refine Qai (R:=w.heap.size+1) _ 4 5 (by kernel_rfl) rfl rfl rfl (Qac (o:=0) HB.out _) ?_;exact(Qal HR.out (hX9.set (p:=⟨w.heap.size+1,0,none⟩) (.inr (show _≤w.heap.size+1 by omega)) _) (hp9.set (o:=0) (by omega) _) (NodeIs.store (o:=0) (hy9) HB.out (by decide) _))
   | true =>
    have hau:(adv (u::q)).length<(u::q).length:=Qax hvw (s:=[46]) ht (by decide)
    go_wp2_with fail
    refine(Qaz hp9).mono ?_;rintro e w10⟨rfl,hp10,hF⟩;have hy10:=hy9.keep hF (fun d hd=>by omega);have hc10:=hc9.keep hF (fun d hd=>by omega);have hR10:=hF.heap (by omega) hR9;have hA10:=hF.heap (by omega) hA9;have hC10:=hF.heap (by omega) hC9;have hs10:=hF.size;have hX10:=hX9.trans hF;clear hy9 hc9 hR9 hA9 hC9 hX9 hp9;clear hF;obtain⟨a,b,hab⟩:∃a b,adv (u::q)=a::b:=by cases h:adv (u::q)with | nil=>exact absurd h hvw.adv.ne | cons a b=>exact⟨a,b,rfl⟩
    rw[hab]at hp10 hau;have hwa:Wf (a::b):=hab▸hvw.adv;have haz:=hp10.sz;have hbb2:=(Qam hwa).len;have HU:=Hi hab;clear hab
    go_wp2_with fail
    refine(Qaz hp10).mono ?_;rintro e w11⟨rfl,hp11,hF⟩;have hy11:=hy10.keep hF (fun d hd=>by omega);have hc11:=hc10.keep hF (fun d hd=>by omega);have hR11:=hF.heap (by omega) hR10;have hA11:=hF.heap (by omega) hA10;have hC11:=hF.heap (by omega) hC10;have hs11:=hF.size;have hX11:=hX10.trans hF;clear hy10 hc10 hR10 hA10 hC10 hX10 hp10;clear hF
    go_upto_region 9 with(fail)
    obtain⟨w12,hw⟩:∃w12,w11.alloc (.cells #[.int .i64 a.ty,.string a.fn,.int .i64 a.off,.int .i64 a.ln,.int .i64 a.col,.string a.tx] 122)=w12:=⟨_,rfl⟩
    rw[hw];have hF:Below w11.heap.size w11 w12:=by rw[←hw];exact Qab _ _
    have hT12:w12.heap[w11.heap.size]? =some (.cells #[.int .i64 a.ty,.string a.fn,.int .i64 a.off,.int .i64 a.ln,.int .i64 a.col,.string a.tx] 122 (0,0)):=by rw[←hw];exact heap_alloc_new _ _
    have hs12:w11.heap.size+1≤w12.heap.size:=by rw[←hw];simp
    clear hw;have hy12:=hy11.later hF;have hc12:=hc11.later hF;have hR12:=Bk hF hR11;have hA12:=Bk hF hA11;have hC12:=Bk hF hC11;have hX12:=hX11.trans (.below hF);have hp12:=hp11.below hF;clear hy11 hc11 hR11 hA11 hC11 hX11 hp11;clear hF;obtain⟨c_hT_0,c_hT_1,c_hT_2,c_hT_3,c_hT_4,c_hT_5⟩:=Cl6 hT12 rfl rfl rfl rfl rfl rfl
    go_wp2_with fail
    refine(Qbd a _).mono ?_;rintro e w13⟨rfl,hF⟩;have hy13:=hy12.later hF;have hc13:=hc12.later hF;have hR13:=Bk hF hR12;have hA13:=Bk hF hA12;have hC13:=Bk hF hC12;have hT13:=Bk hF hT12;have hs13:=hF.size;have hX13:=hX12.trans (.below hF);have hp13:=hp12.below hF;clear hy12 hc12 hR12 hA12 hC12 hT12 hX12 hp12 c_hT_0 c_hT_1 c_hT_2 c_hT_3 c_hT_4 c_hT_5;clear hF;cases hj:(a.ty==1)with
    | false =>
     go_wp2_with fail
     refine(Qay hp13 _ _).mono ?_;rintro e w14⟨T9,v9,rfl,hF⟩;have hy14:=hy13.later hF;have hc14:=hc13.later hF;have hR14:=Bk hF hR13;have hA14:=Bk hF hA13;have hC14:=Bk hF hC13;have hT14:=Bk hF hT13;have hs14:=hF.size;have hX14:=hX13.trans (.below hF);have hp14:=hp13.below hF;clear hy13 hc13 hR13 hA13 hC13 hT13 hX13 hp13;clear hF;have c_hR_0:=Qaa (o:=0) hR14 rfl;have f_hR:=Qae hR14 0;have lt_hR:=Qad hR14
     have HR:=Hi (show has L x (t::r)=none by rw[HF.out,←HG.out,hasL];simp[tx,ht,HU.out,ty,hd,hj]);have HB:=Hi hR14;clear hR14;go_wp2;refine Qai (R:=w.heap.size+1) _ 4 5 (by kernel_rfl) rfl rfl rfl (Qac (o:=0) HB.out _) ?_;exact(Qak HR.out (hX14.set (p:=⟨w.heap.size+1,0,none⟩) (.inr (show _≤w.heap.size+1 by omega)) _))
    | true =>
     have c_hT_5:=Qaa (o:=5) hT13 rfl;have c_hC_0:=Qaa (o:=0) hC13 rfl
     go_wp2_with fail
     refine(Qgy _ _ _ _).mono ?_;rintro e w14⟨rfl,hF⟩;have hy14:=hy13.later hF;have hc14:=hc13.later hF;have hR14:=Bk hF hR13;have hA14:=Bk hF hA13;have hC14:=Bk hF hC13;have hT14:=Bk hF hT13;have hs14:=hF.size;have hX14:=hX13.trans (.below hF);have hp14:=hp13.below hF;clear hy13 hc13 hR13 hA13 hC13 hT13 hX13 hp13 c_hT_5 c_hC_0;clear hF
     go_upto_region 13 with(fail)
     obtain⟨w15,hw⟩:∃w15,w14.alloc (.cells #[.iface 193 (.agg #[.iface Tc vc,.string a.tx])] 299)=w15:=⟨_,rfl⟩
     rw[hw];have hF:Below w14.heap.size w14 w15:=by rw[←hw];exact Qab _ _
     have hH15:w15.heap[w14.heap.size]? =some (.cells #[.iface 193 (.agg #[.iface Tc vc,.string a.tx])] 299 (0,0)):=by rw[←hw];exact heap_alloc_new _ _
     have hs15:w14.heap.size+1≤w15.heap.size:=by rw[←hw];simp
     clear hw;have hy15:=hy14.later hF;have hc15:=hc14.later hF;have hR15:=Bk hF hR14;have hA15:=Bk hF hA14;have hC15:=Bk hF hC14;have hT15:=Bk hF hT14;have hX15:=hX14.trans (.below hF);have hp15:=hp14.below hF;clear hy14 hc14 hR14 hA14 hC14 hT14 hX14 hp14;clear hF;have c_hA_0:=Qaa (o:=0) hA15 rfl;have c_hH_0:=Qaa (o:=0) hH15 rfl
     go_wp2_with fail
     refine(n207_c _ _ _ _ _).mono ?_;rintro e w16⟨rfl,hF⟩;have hy16:=hy15.later hF;have hc16:=hc15.later hF;have hR16:=Bk hF hR15;have hA16:=Bk hF hA15;have hC16:=Bk hF hC15;have hT16:=Bk hF hT15;have hH16:=Bk hF hH15;have hs16:=hF.size;have hX16:=hX15.trans (.below hF);have hp16:=hp15.below hF;clear hy15 hc15 hR15 hA15 hC15 hT15 hH15 hX15 hp15 c_hA_0 c_hH_0;clear hF;have c_hA_0:=Qaa (o:=0) hA16 rfl
     have f_hA:=Qae hA16 0;have lt_hA:=Qad hA16;have lt_hC:=Qad hC16;have lt_hR:=Qad hR16;have lt_hT:=Qad hT16;have lt_hH:=Qad hH16
     go_upto_region 14 with(fail)
     obtain⟨w17,hw⟩:∃w17,w16.setCell ⟨w5.heap.size,0,none⟩ (.iface 262 (.agg #[.iface Ty vy,.iface 193 (.agg #[.iface Tc vc,.string a.tx])]))=w17:=⟨_,rfl⟩
     rw[hw];have hy17:NodeIs w17 base _ _:=hw▸hy16.store (o:=0) hA16 (by decide) (.iface 262 (.agg #[.iface Ty vy,.iface 193 (.agg #[.iface Tc vc,.string a.tx])]));have hc17:NodeIs w17 base _ _:=hw▸hc16.store (o:=0) hA16 (by decide) (.iface 262 (.agg #[.iface Ty vy,.iface 193 (.agg #[.iface Tc vc,.string a.tx])]));have hR17:w17.heap[w.heap.size+1]? =some (.cells #[.nilIface] 299 (0,0)):=hw▸Qag (o:=0) hR16 (by omega) (.iface 262 (.agg #[.iface Ty vy,.iface 193 (.agg #[.iface Tc vc,.string a.tx])]))
     have hA17:w17.heap[w5.heap.size]? =some (.cells #[.iface 262 (.agg #[.iface Ty vy,.iface 193 (.agg #[.iface Tc vc,.string a.tx])])] 299 (0,0)):=hw▸Qac (o:=0) hA16 (.iface 262 (.agg #[.iface Ty vy,.iface 193 (.agg #[.iface Tc vc,.string a.tx])]));have hC17:w17.heap[w7.heap.size]? =some (.cells #[.iface Tc vc] 299 (0,0)):=hw▸Qag (o:=0) hC16 (by omega) (.iface 262 (.agg #[.iface Ty vy,.iface 193 (.agg #[.iface Tc vc,.string a.tx])]))
     have hT17:w17.heap[w11.heap.size]? =some (.cells #[.int .i64 a.ty,.string a.fn,.int .i64 a.off,.int .i64 a.ln,.int .i64 a.col,.string a.tx] 122 (0,0)):=hw▸Qag (o:=0) hT16 (by omega) (.iface 262 (.agg #[.iface Ty vy,.iface 193 (.agg #[.iface Tc vc,.string a.tx])]));have hH17:w17.heap[w14.heap.size]? =some (.cells #[.iface 193 (.agg #[.iface Tc vc,.string a.tx])] 299 (0,0)):=hw▸Qag (o:=0) hH16 (by omega) (.iface 262 (.agg #[.iface Ty vy,.iface 193 (.agg #[.iface Tc vc,.string a.tx])]))
     have hX17:Ext (·=bp) w w17:=hw▸hX16.set (p:=⟨w5.heap.size,0,none⟩) (.inr (show w.heap.size≤w5.heap.size by omega)) (.iface 262 (.agg #[.iface Ty vy,.iface 193 (.agg #[.iface Tc vc,.string a.tx])]));have hs17:w16.heap.size≤w17.heap.size:=by rw[←hw];simp
     have hp17:PS w17 bp base _:=hw▸hp16.set (o:=0) (show base≤w5.heap.size by omega) (.iface 262 (.agg #[.iface Ty vy,.iface 193 (.agg #[.iface Tc vc,.string a.tx])]));clear hy16 hc16 hR16 hA16 hC16 hT16 hH16 hX16 hp16 c_hA_0 f_hA lt_hA lt_hC lt_hR lt_hT lt_hH hw;have c_hC_0:=Qaa (o:=0) hC17 rfl
     go_wp2_with fail
     refine(Qft _ _ _ _).mono ?_;rintro e w18⟨rfl,hF⟩;have hy18:=hy17.later hF;have hc18:=hc17.later hF;have hR18:=Bk hF hR17;have hA18:=Bk hF hA17;have hC18:=Bk hF hC17;have hT18:=Bk hF hT17;have hH18:=Bk hF hH17;have hs18:=hF.size;have hX18:=hX17.trans (.below hF);have hp18:=hp17.below hF;clear hy17 hc17 hR17 hA17 hC17 hT17 hH17 hX17 hp17 c_hC_0;clear hF;have c_hC_0:=Qaa (o:=0) hC18 rfl;have f_hC:=Qae hC18 0
     have lt_hA:=Qad hA18;have lt_hC:=Qad hC18;have lt_hR:=Qad hR18;have hres:hasL (g+1) y c (u::q)=hasL g (.bin 262 y (.sop 193 c a.tx)) (.sop 194 c a.tx) (adv (a::b)):=by rw[hasL];simp[tx,ht,HU.out,ty,hd,hj]
     have HR:=Hi (hres.symm.trans HG.out);clear hres;have H_hA:=Hi hA18;clear hA18;have H_hC:=Hi hC18;clear hC18;have H_hR:=Hi hR18;clear hR18;go_wp2;go_roundw
     case rel =>
      refine⟨g,_,_,_,_,_,_,_,HR.out,by omega,hwa.adv,by omega,hp18.set (o:=0) (by omega) _,.bin 262 _ _ _ _ (hy18.store (o:=0) H_hC.out (by decide) _) (.sop 193 _ _ _ (hc18.store (o:=0) H_hC.out (by decide) _)),.sop 194 _ _ _ (hc18.store (o:=0) H_hC.out (by decide) _),Qag H_hA.out (by omega) _,Qac (o:=0) H_hC.out _,Qag H_hR.out (by omega) _,hX18.set (p:=⟨w7.heap.size,0,none⟩) (.inr (show _≤w7.heap.size by omega)) _⟩
     case measure =>
      rw[(hp18.set (d:=w7.heap.size) (o:=0) (by omega) _).left,HLF.out];omega
 | false =>
  obtain⟨c_hT_0,c_hT_1,c_hT_2,c_hT_3,c_hT_4,c_hT_5⟩:=Cl6 hT4 rfl rfl rfl rfl rfl rfl
  go_wp2_with fail
  refine(QbY t _).mono ?_;rintro e w5⟨rfl,hF⟩;have hx5:=hx4.later hF;have hL5:=Bk hF hL4;have hR5:=Bk hF hR4;have hT5:=Bk hF hT4;have hs5:=hF.size;have hX5:=hX4.trans (.below hF);have hp5:=hp4.below hF;clear hx4 hL4 hR4 hT4 hX4 hp4 c_hT_0 c_hT_1 c_hT_2 c_hT_3 c_hT_4 c_hT_5;clear hF;cases hj:(t.ty==4)with
  | false =>
   go_wp2_with fail
   refine(Qay hp5 _ _).mono ?_;rintro e w6⟨T9,v9,rfl,hF⟩;have hx6:=hx5.later hF;have hL6:=Bk hF hL5;have hR6:=Bk hF hR5;have hT6:=Bk hF hT5;have hs6:=hF.size;have hX6:=hX5.trans (.below hF);have hp6:=hp5.below hF;clear hx5 hL5 hR5 hT5 hX5 hp5;clear hF;have c_hR_0:=Qaa (o:=0) hR6 rfl;have f_hR:=Qae hR6 0;have lt_hR:=Qad hR6;have HR:=Hi (show has L x (t::r)=none by unfold Pg.has;simp[ty,hd,hi,hj]);have HB:=Hi hR6;clear hR6
   go_wp2;refine Qai (R:=w.heap.size+1) _ 4 5 (by kernel_rfl) rfl rfl rfl (Qac (o:=0) HB.out _) ?_;exact(Qak HR.out (hX6.set (p:=⟨w.heap.size+1,0,none⟩) (.inr (show _≤w.heap.size+1 by omega)) _))
  | true =>
   obtain⟨c_hT_0,c_hT_1,c_hT_2,c_hT_3,c_hT_4,c_hT_5⟩:=Cl6 hT5 rfl rfl rfl rfl rfl rfl
   go_wp2_with fail
   refine(hL.str t _ hp5.g (by omega) htz).mono ?_;rintro e w6⟨hF,hr⟩;have hx6:=hx5.later hF;have hL6:=Bk hF hL5;have hR6:=Bk hF hR5;have hT6:=Bk hF hT5;have hs6:=hF.size;have hX6:=hX5.trans (.below hF);have hp6:=hp5.below hF;clear hx5 hL5 hR5 hT5 hX5 hp5 c_hT_0 c_hT_1 c_hT_2 c_hT_3 c_hT_4 c_hT_5;clear hF;cases hm:L.str t.tx with
   | none =>
    rw[hm]at hr;obtain⟨s,T2,v2,rfl⟩:=hr;have c_hR_0:=Qaa (o:=0) hR6 rfl;have f_hR:=Qae hR6 0;have lt_hR:=Qad hR6;have HR:=Hi (show has L x (t::r)=none by unfold Pg.has;simp[ty,hd,hi,hj,hm]);have HB:=Hi hR6;clear hR6;go_wp2;refine Qai (R:=w.heap.size+1) _ 4 5 (by kernel_rfl) rfl rfl rfl (Qac (o:=0) HB.out _) ?_;exact(Qak HR.out (hX6.set (p:=⟨w.heap.size+1,0,none⟩) (.inr (show _≤w.heap.size+1 by omega)) _))
   | some s =>
    rw[hm]at hr;obtain⟨rfl,hsz⟩:=hr;have HM:=Hi hm;clear hm;have c_hL_0:=Qaa (o:=0) hL6 rfl
    go_wp2_with fail
    refine(Qgy _ _ _ _).mono ?_;rintro e w7⟨rfl,hF⟩;have hx7:=hx6.later hF;have hL7:=Bk hF hL6;have hR7:=Bk hF hR6;have hT7:=Bk hF hT6;have hs7:=hF.size;have hX7:=hX6.trans (.below hF);have hp7:=hp6.below hF;clear hx6 hL6 hR6 hT6 hX6 hp6 c_hL_0;clear hF;have c_hR_0:=Qaa (o:=0) hR7 rfl;have f_hR:=Qae hR7 0;have lt_hR:=Qad hR7;have HR:=Hi (show has L x (t::r)=some (.sop 193 x s,adv (t::r))by unfold Pg.has;simp[ty,hd,hi,hj,HM.out])
    have HB:=Hi hR7;clear hR7;go_wp2;refine Qai (R:=w.heap.size+1) _ 4 5 (by kernel_rfl) rfl rfl rfl (Qac (o:=0) HB.out _) ?_;exact(Qal HR.out (hX7.set (p:=⟨w.heap.size+1,0,none⟩) (.inr (show _≤w.heap.size+1 by omega)) _) (hp7.set (o:=0) (by omega) _) (NodeIs.store (o:=0) (.sop 193 _ _ _ hx7) HB.out (by decide) _))
theorem trim_sz(s:ByteArray)(h:s.size≤1000000):(⟨(Lib.trimPrefix s.data.toList [34]).toArray⟩:ByteArray).size≤9223372036854775807:=by
 have:(Lib.trimPrefix s.data.toList [34]).length≤s.data.toList.length:=by unfold Lib.trimPrefix;split<;>simp
 have e:s.data.toList.length=s.size:=rfl;show(Lib.trimPrefix s.data.toList [34]).toArray.size≤_;simp;omega
theorem like_w{L:Lex}(hL:LexC L){bp base N:Nat}:FnL 219 (like L) bp base N:=by
 intro w ts T v x hp hwf hN hbs hx_w;have hbb:=hp.hbp;have h15:=hp.h15;obtain⟨t,r,rfl⟩:∃t r,ts=t::r:=by cases ts with | nil=>exact absurd rfl hp.ne | cons t r=>exact⟨t,r,rfl⟩
 have htz:=hp.sz;go_enter Tryz.func219,Tryz.ntmps219
 go_upto_region 1 with(fail)
 obtain⟨w1,hw⟩:∃w1,((w.alloc (.cells #[.iface T v] 299)).alloc (.cells #[.nilIface] 299))=w1:=⟨_,rfl⟩
 rw[hw];have hF:Below w.heap.size w w1:=by rw[←hw];exact(Qab w _).alloc (by simp) _
 have hL1:w1.heap[w.heap.size]? =some (.cells #[.iface T v] 299 (0,0)):=by rw[←hw];exact Qaf (Qah (by simp) _) _
 have hR1:w1.heap[w.heap.size+1]? =some (.cells #[.nilIface] 299 (0,0)):=by rw[←hw];exact Qah (by simp) _
 have hs1:w.heap.size+2≤w1.heap.size:=by rw[←hw];simp
 clear hw;have hx1:=hx_w.later hF;have hX1:Ext (·=bp) w w1:=.below hF;have hp1:=hp.below hF;clear hx_w hp;clear hF
 go_wp2_with fail
 refine(Qaz hp1).mono ?_;rintro e w2⟨rfl,hp2,hF⟩;have hx2:=hx1.keep hF (fun d hd=>by omega);have hL2:=hF.heap (by omega) hL1;have hR2:=hF.heap (by omega) hR1;have hs2:=hF.size;have hX2:=hX1.trans hF;clear hx1 hL1 hR1 hX1 hp1;clear hF
 go_upto_region 2 with(fail)
 obtain⟨w3,hw⟩:∃w3,w2.alloc (.cells #[.int .i64 t.ty,.string t.fn,.int .i64 t.off,.int .i64 t.ln,.int .i64 t.col,.string t.tx] 122)=w3:=⟨_,rfl⟩
 rw[hw];have hF:Below w2.heap.size w2 w3:=by rw[←hw];exact Qab _ _
 have hT3:w3.heap[w2.heap.size]? =some (.cells #[.int .i64 t.ty,.string t.fn,.int .i64 t.off,.int .i64 t.ln,.int .i64 t.col,.string t.tx] 122 (0,0)):=by rw[←hw];exact heap_alloc_new _ _
 have hs3:w2.heap.size+1≤w3.heap.size:=by rw[←hw];simp
 clear hw;have hx3:=hx2.later hF;have hL3:=Bk hF hL2;have hR3:=Bk hF hR2;have hX3:=hX2.trans (.below hF);have hp3:=hp2.below hF;clear hx2 hL2 hR2 hX2 hp2;clear hF;obtain⟨c_hT_0,c_hT_1,c_hT_2,c_hT_3,c_hT_4,c_hT_5⟩:=Cl6 hT3 rfl rfl rfl rfl rfl rfl
 go_wp2_with fail
 refine(QbY t _).mono ?_;rintro e w4⟨rfl,hF⟩;have hx4:=hx3.later hF;have hL4:=Bk hF hL3;have hR4:=Bk hF hR3;have hT4:=Bk hF hT3;have hs4:=hF.size;have hX4:=hX3.trans (.below hF);have hp4:=hp3.below hF;clear hx3 hL3 hR3 hT3 hX3 hp3 c_hT_0 c_hT_1 c_hT_2 c_hT_3 c_hT_4 c_hT_5;clear hF;cases hi:(t.ty==4)with
 | false =>
  go_wp2_with fail
  refine(Qay hp4 _ _).mono ?_;rintro e w5⟨T9,v9,rfl,hF⟩;have hx5:=hx4.later hF;have hL5:=Bk hF hL4;have hR5:=Bk hF hR4;have hT5:=Bk hF hT4;have hs5:=hF.size;have hX5:=hX4.trans (.below hF);have hp5:=hp4.below hF;clear hx4 hL4 hR4 hT4 hX4 hp4;clear hF;have c_hR_0:=Qaa (o:=0) hR5 rfl;have f_hR:=Qae hR5 0;have lt_hR:=Qad hR5;have HR:=Hi (show like L x (t::r)=none by unfold Pg.like;simp[ty,hd,hi]);have HB:=Hi hR5;clear hR5
  go_wp2;refine Qai (R:=w.heap.size+1) _ 4 5 (by kernel_rfl) rfl rfl rfl (Qac (o:=0) HB.out _) ?_;exact(Qak HR.out (hX5.set (p:=⟨w.heap.size+1,0,none⟩) (.inr (show _≤w.heap.size+1 by omega)) _))
 | true =>
  have c_hT_5:=Qaa (o:=5) hT4 rfl
  go_wp2_with fail
  refine(Tryz.strings_TrimPrefix _ _ _).mono ?_;rintro e w4⟨rfl,rfl⟩
  go_wp2_with fail
  refine(Tryz.strings_TrimSuffix _ _ _ ?_).mono ?_
  ·exact trim_sz t.tx htz
  rintro e w4⟨rfl,rfl⟩
  go_wp2_with fail
  refine(hL.pat base t.tx w4 hp4.g (by omega) (by omega) htz).mono ?_;rintro e w5⟨hF,hr⟩;have hx5:=hx4.later hF;have hL5:=Bk hF hL4;have hR5:=Bk hF hR4;have hT5:=Bk hF hT4;have hs5:=hF.size;have hX5:=hX4.trans (.below hF);have hp5:=hp4.below hF;clear hx4 hL4 hR4 hT4 hX4 hp4 c_hT_5;clear hF;cases hm:L.pat t.tx with
  | none =>
   rw[hm]at hr;obtain⟨p9,n9,c9,T2,v2,rfl⟩:=hr;have c_hR_0:=Qaa (o:=0) hR5 rfl;have f_hR:∀o,(w5.alloc o).frozen? ⟨w.heap.size+1,0,none⟩=false:=fun o=>Qae (Qaf hR5 o) 0
   have lt_hR:=Qad hR5;have HR:=Hi (show like L x (t::r)=none by unfold Pg.like;simp[ty,hd,hi,hm]);have HB:=Hi hR5;clear hR5;go_wp2;refine Qai (R:=w.heap.size+1) _ 4 5 (by kernel_rfl) rfl rfl rfl (Qaf (Qac (o:=0) HB.out _) _) ?_;exact(Qak HR.out ((hX5.set (p:=⟨w.heap.size+1,0,none⟩) (.inr (show _≤w.heap.size+1 by omega)) _).alloc _))
  | some l =>
   rw[hm]at hr;obtain⟨p9,c9,rfl,hrow⟩:=hr;have HM:=Hi hm;clear hm
   go_upto_region 8 with(fail)
   obtain⟨w6,hw⟩:∃w6,w5.alloc (.cells #[.slice p9 l.length c9] 197)=w6:=⟨_,rfl⟩
   rw[hw];have hF:Below w5.heap.size w5 w6:=by rw[←hw];exact Qab _ _
   have hP6:w6.heap[w5.heap.size]? =some (.cells #[.slice p9 l.length c9] 197 (0,0)):=by rw[←hw];exact heap_alloc_new _ _
   have hs6:w5.heap.size+1≤w6.heap.size:=by rw[←hw];simp
   clear hw;have hx6:=hx5.later hF;have hL6:=Bk hF hL5;have hR6:=Bk hF hR5;have hT6:=Bk hF hT5;have hX6:=hX5.trans (.below hF);have hp6:=hp5.below hF;clear hx5 hL5 hR5 hT5 hX5 hp5;have hF9:=hF;clear hF;have hn9:NodeIs w6 base (.iface 199 (.agg #[.iface T v,.slice p9 l.length c9])) (.like x l):=.like _ _ _ _ _ hx6 (hrow.ext (.inr (.inr rfl)) (S:=fun _=>False) (.below hF9) (fun _ h=>h.elim));clear hrow hF9
   have hn9x6:=hn9;clear hn9;have c_hL_0:=Qaa (o:=0) hL6 rfl;have c_hP_0:=Qaa (o:=0) hP6 rfl
   go_wp2_with fail
   refine(n236_c _ _ _ _ _ _).mono ?_;rintro e w7⟨rfl,hF⟩;have hx7:=hx6.later hF;have hn9x7:=hn9x6.later hF;have hL7:=Bk hF hL6;have hR7:=Bk hF hR6;have hT7:=Bk hF hT6;have hP7:=Bk hF hP6;have hs7:=hF.size;have hX7:=hX6.trans (.below hF);have hp7:=hp6.below hF;clear hx6 hn9x6 hL6 hR6 hT6 hP6 hX6 hp6 c_hL_0 c_hP_0;clear hF;have c_hR_0:=Qaa (o:=0) hR7 rfl;have f_hR:=Qae hR7 0;have lt_hR:=Qad hR7;have HR:=Hi (show like L x (t::r)=some (.like x l,adv (t::r))by unfold Pg.like;simp[ty,hd,hi,HM.out])
   have HB:=Hi hR7;clear hR7;go_wp2;refine Qai (R:=w.heap.size+1) _ 4 5 (by kernel_rfl) rfl rfl rfl (Qac (o:=0) HB.out _) ?_;exact(Qal HR.out (hX7.set (p:=⟨w.heap.size+1,0,none⟩) (.inr (show _≤w.heap.size+1 by omega)) _) (hp7.set (o:=0) (by omega) _) (NodeIs.store (o:=0) (hn9x7) HB.out (by decide) _))
end Go.Proofs.Pg
namespace Go.Proofs.Pg
open Go.RowKit
theorem Qa5{w:World}{base:Nat}{e:TypeId}{size:Nat}{v:Value}{n:Nat}{xs:List Value}(h:w.ownsRow base e size v n xs){k:Nat}(hk:v.ownBlock=some k):base≤k∧∃c,w.heap[k]? =some (.cells c e (0,0)):=by
 rcases h.2 with⟨rfl,_⟩ | ⟨g,cap,cur,rfl,a,b,_⟩
 ·cases hk
 ·cases hk;exact⟨a,cur,b⟩
theorem QaF{w w':World}{v:Value}(hg:w.grownBy w' v.ownBlock):Ext (fun d=>v.ownBlock=some d) w w' :=
 ⟨hg.os,hg.tape,hg.output,hg.size,fun b hb hn=>hg.block b hb (fun e=>hn e.symm)⟩
theorem NodeIs.grow{w w':World}{lo:Nat}{u:Value}{x:Ex}{base:Nat}{e:TypeId}{size:Nat}{v:Value}{n:Nat}{xs:List Value}(h:NodeIs w lo u x)(ho:w.ownsRow base e size v n xs)(hg:w.grownBy w' v.ownBlock)(he:e≠136∧e≠221∧e≠316):NodeIs w' lo u x :=
 h.ext (QaF hg) (fun d hd=>by obtain⟨_,c,hc⟩:=Qa5 ho hd;exact .inr (.inr ⟨c,e,_,hc,he⟩))
theorem PS.grow{w w':World}{bp b0:Nat}{ts:List Tok}{base:Nat}{e:TypeId}{size:Nat}{v:Value}{n:Nat}{xs:List Value}(h:PS w bp b0 ts)(ho:w.ownsRow base e size v n xs)(hg:w.grownBy w' v.ownBlock)(hb:b0≤base):PS w' bp b0 ts :=
 h.ext (QaF hg) (fun d hd=>Nat.le_trans hb (Qa5 ho hd).1)
theorem QaL{w w':World}{base:Nat}{e:TypeId}{size:Nat}{v:Value}{n:Nat}{xs:List Value}{d:Nat}{o:Obj}(h:w.heap[d]? =some o)(ho:w.ownsRow base e size v n xs)(hg:w.grownBy w' v.ownBlock)(hd:d<base):w'.heap[d]? =some o :=
 (hg.block d (Qad h) (fun e=>by have:=(Qa5 ho e.symm).1;omega)).trans h
theorem QaR{w w':World}{base:Nat}{e:TypeId}{size:Nat}{v:Value}{n:Nat}{xs:List Value}{d:Nat}{c:Array Value}{T:TypeId}{fr:Nat×Nat}(h:w.heap[d]? =some (.cells c T fr))(ho:w.ownsRow base e size v n xs)(hg:w.grownBy w' v.ownBlock)(hT:T≠e):w'.heap[d]? =some (.cells c T fr) :=
 (hg.block d (Qad h) (fun q=>by obtain⟨_,c',hc⟩:=Qa5 ho q.symm;rw[h]at hc;cases hc;exact hT rfl)).trans h
theorem Ext.grow{S:Nat→Prop}{w0 w w':World}{base:Nat}{e:TypeId}{size:Nat}{v:Value}{n:Nat}{xs:List Value}(h:Ext S w0 w)(ho:w.ownsRow base e size v n xs)(hg:w.grownBy w' v.ownBlock)(hb:w0.heap.size≤base):Ext S w0 w' :=
 h.trans' (QaF hg) (fun d hd=>.inr (Nat.le_trans hb (Qa5 ho hd).1))
theorem Qaj{S:Nat→Prop}{w w':World}{base:Nat}{e:TypeId}{size:Nat}{v:Value}{n:Nat}{xs:List Value}(h:w.ownsRow base e size v n xs)(he:Ext S w w')(hs:∀d,S d→d<base):w'.ownsRow base e size v n xs:=by
 obtain⟨h1,h2⟩:=h;refine⟨h1,?_⟩;rcases h2 with h | ⟨g,cap,cur,a,b,c,d⟩
 ·exact .inl h
 ·exact .inr ⟨g,cap,cur,a,b,he.heap (fun hS=>by have:=hs _ hS;omega) c,d⟩
theorem Qdo{w:World}{base:Nat}{e:TypeId}{size:Nat}{v:Value}{n:Nat}{xs:List Value}{d o:Nat}{c:Array Value}{T:TypeId}{fr:Nat×Nat}(h:w.ownsRow base e size v n xs)(hd:w.heap[d]? =some (.cells c T fr))(hT:T≠e)(u:Value):(w.setCell ⟨d,o,none⟩ u).ownsRow base e size v n xs:=by
 obtain⟨h1,h2⟩:=h;refine⟨h1,?_⟩;rcases h2 with h | ⟨g,cap,cur,a,b,c',d'⟩
 ·exact .inl h
 ·exact .inr ⟨g,cap,cur,a,b,Qag c' (by rintro rfl;rw[hd]at c';cases c';exact hT rfl) u,d'⟩
structure SlT(P:Program)(T E:TypeId)(z:Value)(sz by':Nat):Prop where
 hu:P.underlying T=some (.slice E)
 i:∃i0,P.info? E=some i0∧i0.zero=some z∧i0.size=sz∧i0.bytes=by'
 zs:z.cells.size=sz
 pos:0<sz
theorem appG{P:Program}{ops:Array Oper}{rest:List Oper}{o:Oper}{a:Act}{w:World}{Q:Exit→Act→World→Prop}{T E:TypeId}{z:Value}{sz by':Nat}(hT:SlT P T E z sz by')
  (hgd:o.guard=none)(s xo:Operand)(ho:o.op=.call {callee:=.builtin .append,args:=#[s,xo],argTypes:=#[T,T]})(base:Nat)(v:Value)(n:Nat)(xs:List Value)(hs:a.eval s=v)(hown:w.ownsRow base E sz v n xs)
  (blk:Nat)(news:List Value)(hl:news.length=1*sz)(hx:a.eval xo=.slice (some ⟨blk,0,none⟩) 1 1)(hc:∀j u,news[j]? =some u→w.cell? ⟨blk,j,none⟩=some u)(h1:∀v∈news,v.oneCell'=true)(hm:n+1≤maxLen)(hn:(n+1)*by'≤140737488355328)(hbase:base≤w.heap.size)
  (h:∀v' w',w'.ownsRow base E sz v' (n+1) (xs++news)→w.grownBy w' v.ownBlock→v'≠.slice none 0 0→wpList P ops Q rest (a.put o.dst v') w'):wpList P ops Q (o::rest) a w:=by
 obtain⟨i0,hi,hz0,hz1,hz2⟩:=hT.i;refine wpList_append_own w hgd s xo T ho base E i0 z sz by' hT.hu hi hz0 hz1 hz2 hT.zs hT.pos v n xs hs hown ⟨blk,0,none⟩ 1 1 news hx hl ?_ h1 hm hn hbase (fun v' w' h2 h3 h4=>h v' w' h2 h3 (fun e=>by have:=(h4.1 e).2;omega));intro j u hj;have:=hc j u hj;by_cases h0:j=0
 ·subst h0;simpa [Addr.add]using this
 ·simpa [Addr.add,h0]using this
theorem sl254:SlT Tryz.prog 254 4 (.bool false) 1 1:=⟨by kernel_rfl,⟨Tryz.t4,by kernel_rfl,by kernel_rfl,by kernel_rfl,by kernel_rfl⟩,rfl,by decide⟩
theorem sl413:SlT Tryz.prog 413 299 (.agg #[.nilIface]) 1 16:=⟨by kernel_rfl,⟨Tryz.t299,by kernel_rfl,by kernel_rfl,by kernel_rfl,by kernel_rfl⟩,rfl,by decide⟩
theorem sl434:SlT Tryz.prog 434 439 (.agg #[.string ⟨#[]⟩,.nilIface]) 2 32:=⟨by kernel_rfl,⟨Tryz.t439,by kernel_rfl,by kernel_rfl,by kernel_rfl,by kernel_rfl⟩,rfl,by decide⟩
theorem sl217:SlT Tryz.prog 217 221 (.agg #[.string ⟨#[]⟩,.nilIface]) 2 32:=⟨by kernel_rfl,⟨Tryz.t221,by kernel_rfl,by kernel_rfl,by kernel_rfl,by kernel_rfl⟩,rfl,by decide⟩
theorem sl321:SlT Tryz.prog 321 20 .nilIface 1 16:=⟨by kernel_rfl,⟨Tryz.t20,by kernel_rfl,by kernel_rfl,by kernel_rfl,by kernel_rfl⟩,rfl,by decide⟩
theorem sl195:SlT Tryz.prog 195 316 (.agg #[.bool false,.string ⟨#[]⟩]) 2 24:=⟨by kernel_rfl,⟨Tryz.t316,by kernel_rfl,by kernel_rfl,by kernel_rfl,by kernel_rfl⟩,rfl,by decide⟩
end Go.Proofs.Pg
