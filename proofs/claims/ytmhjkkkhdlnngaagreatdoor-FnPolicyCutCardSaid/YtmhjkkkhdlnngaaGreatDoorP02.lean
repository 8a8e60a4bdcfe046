/- FnPolicyCut, part 2. -/
import Derived.Shelf.Strings.BuilderRune
import Derived.Shelf.Small.Utf8
import Derived.Shelf.Strconv.ParseIntPublic10
import Derived.Shelf.Strings.Prefix
import Derived.Shelf.Slices.Turned
import Derived.Shelf.LaysM
import Derived.Shelf.LaysC
import Derived.Shelf.Bytes.LenAt
import Derived.Shelf.Bytes.StringAt
import Derived.Shelf.Bytes.GrowAt
import Derived.Test.YtmhjkkkhdlnngaaGreatDoorProg
set_option linter.all false
set_option maxRecDepth 100000
set_option maxHeartbeats 0
namespace Go.Proofs
open Go.Shelf Go.Proofs.Tryz
def Tryz.lays169_ren:Go.Shelf.Ren:=⟨fun | 169=>188 | n=>n,fun | 70=>358 | 9=>9 | 0=>0 | 72=>360 | 37=>78 | 127=>370 | 3=>3 | 5=>5 | n=>n,fun | n=>n⟩
theorem Tryz.lays169:Go.Proofs.Lays.n169 prog Tryz.lays169_ren:=⟨by kernel_rfl,func188.trans (congrArg some (by kernel_rfl)),underlying0,isAgg0,sizeOf0,zeroValue0,underlying3,isAgg3,sizeOf3,zeroValue3,underlying9,isAgg9,sizeOf9,zeroValue9,underlying78,isAgg78,sizeOf78,zeroValue78,underlying358,isAgg358,sizeOf358,zeroValue358,underlying360,isAgg360,sizeOf360,zeroValue360,underlying370,isAgg370,sizeOf370,zeroValue370⟩
theorem Tryz.Builder_Extra_169:Builder.Extra prog Tryz.lays169_ren:={
 sizeBuilder:=by kernel_rfl
 liesBuilder:=by kernel_rfl
 t5:=underlying5
 a5:=isAgg5
 z5:=sizeOf5
 v5:=zeroValue5
 infoByte:=by kernel_rfl
 cellsByte:=by kernel_rfl
 sizeByte:=by kernel_rfl
 neB5:=by decide}
def Tryz.lays119_ren:Go.Shelf.Ren:=⟨fun | 119=>205 | n=>n,fun | 21=>21 | 4=>4 | n=>n,fun | n=>n⟩
theorem Tryz.lays119:Go.Proofs.Lays.n119 prog Tryz.lays119_ren:=⟨by kernel_rfl,func205.trans (congrArg some (by kernel_rfl)),underlying4,isAgg4,sizeOf4,zeroValue4,underlying21,isAgg21,sizeOf21,zeroValue21⟩
theorem Tryz.utf8_ValidRune(r:Int)(w:World) :
  Calls prog 205 #[.int .i32 r] w fun e w'=>e=.returned (.bool (Lib.validRune r))∧w'=w:=Any.utf8_ValidRune Tryz.lays119 r w
open Go.RowKit in
theorem Tryz.Builder_String_any_k(B b:Nat)(l:List UInt8)(w:World)(h:Lib.IsBuilderF 360 5 B b (Lib.byteCells l) w)(hBw:B≤w.heap.size) :
  Calls prog 188 #[.pointer (some ⟨b,0,none⟩)] w fun e w'=>e=.returned (.string ⟨l.toArray⟩)∧(Lib.IsBuilderF 360 5 B b (Lib.byteCells l) w'∧Below B w w'∧Lib.OthersKept 5 (some b) w w'):=Any.Builder_String_any_k Tryz.lays169 Tryz.Builder_Extra_169 B b l w h hBw
def Tryz.laysM181_ren:Go.Shelf.Ren:=⟨fun | 181=>165 | n=>n,fun | 130=>155 | 3=>3 | 0=>0 | 93=>247 | 37=>78 | 91=>245 | 5=>5 | n=>n,fun | n=>n⟩
theorem Tryz.laysM181:Go.Proofs.LaysM.n181 prog Tryz.laysM181_ren:={
 mixed:=by kernel_rfl
 f181:=func165.trans (congrArg some (by kernel_rfl))
 t0:=underlying0
 a0:=isAgg0
 z0:=sizeOf0
 v0:=zeroValue0
 t3:=underlying3
 a3:=isAgg3
 z3:=sizeOf3
 v3:=zeroValue3
 t37:=underlying78
 a37:=isAgg78
 z37:=sizeOf78
 v37:=zeroValue78
 t93:=underlying247
 a93:=isAgg247
 z93:=sizeOf247
 v93:=zeroValue247
 t130:=underlying155
 a130:=isAgg155
 z130:=sizeOf155
 v130:=zeroValue155
 t5:=underlying5
 a5:=isAgg5
 z5:=sizeOf5
 v5:=zeroValue5
 t91:=underlying245
 a91:=isAgg245
 z91:=sizeOf245
 v91:=zeroValue245
 i0:=by kernel_rfl
 i3:=by kernel_rfl
 i5:=by kernel_rfl
 i37:=by kernel_rfl
 i91:=by kernel_rfl
 i93:=by kernel_rfl
 i130:=by kernel_rfl}
def Tryz.laysM251_ren:Go.Shelf.Ren:=⟨fun | 251=>180 | n=>n,fun | 130=>155 | 3=>3 | 4=>4 | 0=>0 | 93=>247 | 37=>78 | 91=>245 | 5=>5 | n=>n,fun | n=>n⟩
theorem Tryz.laysM251:Go.Proofs.LaysM.n251 prog Tryz.laysM251_ren:={
 mixed:=by kernel_rfl
 f251:=func180.trans (congrArg some (by kernel_rfl))
 t0:=underlying0
 a0:=isAgg0
 z0:=sizeOf0
 v0:=zeroValue0
 t3:=underlying3
 a3:=isAgg3
 z3:=sizeOf3
 v3:=zeroValue3
 t4:=underlying4
 a4:=isAgg4
 z4:=sizeOf4
 v4:=zeroValue4
 t37:=underlying78
 a37:=isAgg78
 z37:=sizeOf78
 v37:=zeroValue78
 t93:=underlying247
 a93:=isAgg247
 z93:=sizeOf247
 v93:=zeroValue247
 t130:=underlying155
 a130:=isAgg155
 z130:=sizeOf155
 v130:=zeroValue155
 t5:=underlying5
 a5:=isAgg5
 z5:=sizeOf5
 v5:=zeroValue5
 t91:=underlying245
 a91:=isAgg245
 z91:=sizeOf245
 v91:=zeroValue245
 i0:=by kernel_rfl
 i3:=by kernel_rfl
 i4:=by kernel_rfl
 i5:=by kernel_rfl
 i37:=by kernel_rfl
 i91:=by kernel_rfl
 i93:=by kernel_rfl
 i130:=by kernel_rfl}
def Tryz.laysM252_ren:Go.Shelf.Ren:=⟨fun | 252=>181 | 181=>165 | 184=>123 | 251=>180 | 290=>198 | 324=>213 | n=>n,fun | 130=>155 | 3=>3 | 4=>4 | 0=>0 | 93=>247 | 131=>152 | 37=>78 | 75=>104 | 91=>245 | 20=>20 | 5=>5 | 80=>242 | 9=>9 | n=>n,fun | 14=>4 | n=>n⟩
theorem Tryz.laysM252:Go.Proofs.LaysM.n252 prog Tryz.laysM252_ren:={
 mixed:=by kernel_rfl
 f181:=func165.trans (congrArg some (by kernel_rfl))
 f184:=func123.trans (congrArg some (by kernel_rfl))
 f251:=func180.trans (congrArg some (by kernel_rfl))
 f252:=func181.trans (congrArg some (by kernel_rfl))
 f290:=func198.trans (congrArg some (by kernel_rfl))
 f324:=func213.trans (congrArg some (by kernel_rfl))
 t0:=underlying0
 a0:=isAgg0
 z0:=sizeOf0
 v0:=zeroValue0
 t3:=underlying3
 a3:=isAgg3
 z3:=sizeOf3
 v3:=zeroValue3
 t4:=underlying4
 a4:=isAgg4
 z4:=sizeOf4
 v4:=zeroValue4
 t20:=underlying20
 a20:=isAgg20
 z20:=sizeOf20
 v20:=zeroValue20
 t37:=underlying78
 a37:=isAgg78
 z37:=sizeOf78
 v37:=zeroValue78
 t75:=underlying104
 a75:=isAgg104
 z75:=sizeOf104
 v75:=zeroValue104
 t91:=underlying245
 a91:=isAgg245
 z91:=sizeOf245
 v91:=zeroValue245
 t93:=underlying247
 a93:=isAgg247
 z93:=sizeOf247
 v93:=zeroValue247
 t130:=underlying155
 a130:=isAgg155
 z130:=sizeOf155
 v130:=zeroValue155
 t131:=underlying152
 a131:=isAgg152
 z131:=sizeOf152
 v131:=zeroValue152
 g14:=by kernel_rfl
 t5:=underlying5
 a5:=isAgg5
 z5:=sizeOf5
 v5:=zeroValue5
 t9:=underlying9
 a9:=isAgg9
 z9:=sizeOf9
 v9:=zeroValue9
 t80:=underlying242
 a80:=isAgg242
 z80:=sizeOf242
 v80:=zeroValue242
 i0:=by kernel_rfl
 i3:=by kernel_rfl
 i4:=by kernel_rfl
 i5:=by kernel_rfl
 i9:=by kernel_rfl
 i20:=by kernel_rfl
 i37:=by kernel_rfl
 i75:=by kernel_rfl
 i80:=by kernel_rfl
 i91:=by kernel_rfl
 i93:=by kernel_rfl
 i130:=by kernel_rfl
 i131:=by kernel_rfl
 m14:=by kernel_rfl}
def Tryz.laysM182_ren:Go.Shelf.Ren:=⟨fun | 182=>166 | n=>n,fun | 130=>155 | 9=>9 | 4=>4 | 0=>0 | 93=>247 | 37=>78 | 3=>3 | 91=>245 | 5=>5 | n=>n,fun | n=>n⟩
theorem Tryz.laysM182:Go.Proofs.LaysM.n182 prog Tryz.laysM182_ren:={
 mixed:=by kernel_rfl
 f182:=func166.trans (congrArg some (by kernel_rfl))
 t0:=underlying0
 a0:=isAgg0
 z0:=sizeOf0
 v0:=zeroValue0
 t3:=underlying3
 a3:=isAgg3
 z3:=sizeOf3
 v3:=zeroValue3
 t4:=underlying4
 a4:=isAgg4
 z4:=sizeOf4
 v4:=zeroValue4
 t9:=underlying9
 a9:=isAgg9
 z9:=sizeOf9
 v9:=zeroValue9
 t37:=underlying78
 a37:=isAgg78
 z37:=sizeOf78
 v37:=zeroValue78
 t93:=underlying247
 a93:=isAgg247
 z93:=sizeOf247
 v93:=zeroValue247
 t130:=underlying155
 a130:=isAgg155
 z130:=sizeOf155
 v130:=zeroValue155
 t5:=underlying5
 a5:=isAgg5
 z5:=sizeOf5
 v5:=zeroValue5
 t91:=underlying245
 a91:=isAgg245
 z91:=sizeOf245
 v91:=zeroValue245
 i0:=by kernel_rfl
 i3:=by kernel_rfl
 i4:=by kernel_rfl
 i5:=by kernel_rfl
 i9:=by kernel_rfl
 i37:=by kernel_rfl
 i91:=by kernel_rfl
 i93:=by kernel_rfl
 i130:=by kernel_rfl}
def Tryz.laysC174_ren:Go.Shelf.Ren:=⟨fun | 174=>246 | 247=>254 | 245=>255 | 287=>264 | 279=>265 | 280=>266 | 281=>267 | 282=>268 | 321=>293 | 322=>294 | 316=>295 | 171=>296 | 205=>141 | 243=>307 | 246=>310 | 283=>311 | 284=>312 | 285=>313 | 286=>314 | 129=>316 | 317=>315 | 318=>317 | 319=>318 | 320=>319 | 337=>320 | 338=>321 | n=>n,fun | 9=>9 | 3=>3 | 2=>2 | 75=>104 | 85=>391 | 4=>4 | 167=>403 | 5=>5 | 53=>24 | 175=>404 | 46=>162 | 168=>406 | 37=>78 | 0=>0 | 210=>427 | 21=>21 | 127=>370 | 145=>348 | 143=>346 | 171=>443 | 173=>446 | 212=>449 | 51=>25 | 20=>20 | 213=>450 | 232=>453 | 233=>454 | 80=>242 | n=>n,fun | 15=>5 | 16=>6 | 17=>7 | 18=>8 | 19=>9 | n=>n⟩
theorem Tryz.laysC174:Go.Proofs.LaysC.n174 prog Tryz.laysC174_ren:={
 mixed:=by kernel_rfl
 f129:=func316.trans (congrArg some (by kernel_rfl))
 f171:=func296.trans (congrArg some (by kernel_rfl))
 f174:=func246.trans (congrArg some (by kernel_rfl))
 f205:=func141.trans (congrArg some (by kernel_rfl))
 f243:=func307.trans (congrArg some (by kernel_rfl))
 f245:=func255.trans (congrArg some (by kernel_rfl))
 f246:=func310.trans (congrArg some (by kernel_rfl))
 f247:=func254.trans (congrArg some (by kernel_rfl))
 f279:=func265.trans (congrArg some (by kernel_rfl))
 f280:=func266.trans (congrArg some (by kernel_rfl))
 f281:=func267.trans (congrArg some (by kernel_rfl))
 f282:=func268.trans (congrArg some (by kernel_rfl))
 f283:=func311.trans (congrArg some (by kernel_rfl))
 f284:=func312.trans (congrArg some (by kernel_rfl))
 f285:=func313.trans (congrArg some (by kernel_rfl))
 f286:=func314.trans (congrArg some (by kernel_rfl))
 f287:=func264.trans (congrArg some (by kernel_rfl))
 f316:=func295.trans (congrArg some (by kernel_rfl))
 f317:=func315.trans (congrArg some (by kernel_rfl))
 f318:=func317.trans (congrArg some (by kernel_rfl))
 f319:=func318.trans (congrArg some (by kernel_rfl))
 f320:=func319.trans (congrArg some (by kernel_rfl))
 f321:=func293.trans (congrArg some (by kernel_rfl))
 f322:=func294.trans (congrArg some (by kernel_rfl))
 f337:=func320.trans (congrArg some (by kernel_rfl))
 f338:=func321.trans (congrArg some (by kernel_rfl))
 t0:=underlying0
 a0:=isAgg0
 z0:=sizeOf0
 v0:=zeroValue0
 t2:=underlying2
 a2:=isAgg2
 z2:=sizeOf2
 v2:=zeroValue2
 t3:=underlying3
 a3:=isAgg3
 z3:=sizeOf3
 v3:=zeroValue3
 t4:=underlying4
 a4:=isAgg4
 z4:=sizeOf4
 v4:=zeroValue4
 t5:=underlying5
 a5:=isAgg5
 z5:=sizeOf5
 v5:=zeroValue5
 t9:=underlying9
 a9:=isAgg9
 z9:=sizeOf9
 v9:=zeroValue9
 t20:=underlying20
 a20:=isAgg20
 z20:=sizeOf20
 v20:=zeroValue20
 t21:=underlying21
 a21:=isAgg21
 z21:=sizeOf21
 v21:=zeroValue21
 t37:=underlying78
 a37:=isAgg78
 z37:=sizeOf78
 v37:=zeroValue78
 t46:=underlying162
 a46:=isAgg162
 z46:=sizeOf162
 v46:=zeroValue162
 t51:=underlying25
 a51:=isAgg25
 z51:=sizeOf25
 v51:=zeroValue25
 t53:=underlying24
 a53:=isAgg24
 z53:=sizeOf24
 v53:=zeroValue24
 t75:=underlying104
 a75:=isAgg104
 z75:=sizeOf104
 v75:=zeroValue104
 t85:=underlying391
 a85:=isAgg391
 z85:=sizeOf391
 v85:=zeroValue391
 t127:=underlying370
 a127:=isAgg370
 z127:=sizeOf370
 v127:=zeroValue370
 t143:=underlying346
 a143:=isAgg346
 z143:=sizeOf346
 v143:=zeroValue346
 t145:=underlying348
 a145:=isAgg348
 z145:=sizeOf348
 v145:=zeroValue348
 t167:=underlying403
 a167:=isAgg403
 z167:=sizeOf403
 v167:=zeroValue403
 t168:=underlying406
 a168:=isAgg406
 z168:=sizeOf406
 v168:=zeroValue406
 t171:=underlying443
 a171:=isAgg443
 z171:=sizeOf443
 v171:=zeroValue443
 t173:=underlying446
 a173:=isAgg446
 z173:=sizeOf446
 v173:=zeroValue446
 t175:=underlying404
 a175:=isAgg404
 z175:=sizeOf404
 v175:=zeroValue404
 t210:=underlying427
 a210:=isAgg427
 z210:=sizeOf427
 v210:=zeroValue427
 t212:=underlying449
 a212:=isAgg449
 z212:=sizeOf449
 v212:=zeroValue449
 t213:=underlying450
 a213:=isAgg450
 z213:=sizeOf450
 t232:=underlying453
 a232:=isAgg453
 z232:=sizeOf453
 v232:=zeroValue453
 t233:=underlying454
 a233:=isAgg454
 z233:=sizeOf454
 v233:=zeroValue454
 g15:=by kernel_rfl
 g16:=by kernel_rfl
 g17:=by kernel_rfl
 g18:=by kernel_rfl
 g19:=by kernel_rfl
 t80:=underlying242
 a80:=isAgg242
 z80:=sizeOf242
 v80:=zeroValue242
 i0:=by kernel_rfl
 i2:=by kernel_rfl
 i3:=by kernel_rfl
 i4:=by kernel_rfl
 i5:=by kernel_rfl
 i9:=by kernel_rfl
 i20:=by kernel_rfl
 i21:=by kernel_rfl
 i37:=by kernel_rfl
 i46:=by kernel_rfl
 i51:=by kernel_rfl
 i53:=by kernel_rfl
 i75:=by kernel_rfl
 i80:=by kernel_rfl
 i85:=by kernel_rfl
 i127:=by kernel_rfl
 i143:=by kernel_rfl
 i145:=by kernel_rfl
 i167:=by kernel_rfl
 i168:=by kernel_rfl
 i171:=by kernel_rfl
 i173:=by kernel_rfl
 i175:=by kernel_rfl
 i210:=by kernel_rfl
 i212:=by kernel_rfl
 i232:=by kernel_rfl
 i233:=by kernel_rfl
 m15:=by kernel_rfl
 m16:=by kernel_rfl
 m17:=by kernel_rfl
 m18:=by kernel_rfl
 m19:=by kernel_rfl
 c0:=by kernel_rfl
 c2:=by kernel_rfl
 c3:=by kernel_rfl
 c4:=by kernel_rfl
 c5:=by kernel_rfl
 c9:=by kernel_rfl
 c20:=by kernel_rfl
 c21:=by kernel_rfl
 c37:=by kernel_rfl
 c46:=by kernel_rfl
 c51:=by kernel_rfl
 c53:=by kernel_rfl
 c75:=by kernel_rfl
 c80:=by kernel_rfl
 c85:=by kernel_rfl
 c127:=by kernel_rfl
 c143:=by kernel_rfl
 c145:=by kernel_rfl
 c167:=by kernel_rfl
 c168:=by kernel_rfl
 c171:=by kernel_rfl
 c173:=by kernel_rfl
 c175:=by kernel_rfl
 c210:=by kernel_rfl
 c212:=by kernel_rfl
 c213:=by kernel_rfl
 c232:=by kernel_rfl
 c233:=by kernel_rfl}
open Go.RowKit in
theorem Tryz.strconv_ParseInt_10_at64_ok(s:ByteArray)(hmax:s.size≤9223372036854775806)(v:Int)(h:Lib.parseIntB 64 s.data.toList=.ok v)(w:World) :
  Calls prog 246 #[.string s,.int .i64 10,.int .i64 64] w fun e w'=>e=.returned (.tuple #[.int .i64 v,.nilIface])∧(w'=w∨∃t,w'=Lib.bytesWorld w 5 t):=Any.strconv_ParseInt_10_at64_ok Tryz.laysC174 s hmax v h w
open Go.RowKit in
theorem Tryz.strconv_ParseInt_10_at64_syn(s:ByteArray)(hlim:s.size≤281474976710656)(r:Lib.NumEnd Int)(h:Lib.parseIntB 64 s.data.toList=r)(h1:∀v,r≠.ok v)(h2:r≠.range)(ev:Value)(w:World)(hv:w.cell? ⟨5,0,none⟩=some ev)(hev:ev=.nilIface∨∃te pe,ev=.iface te pe) :
  Calls prog 246 #[.string s,.int .i64 10,.int .i64 64] w fun e w'=>∃N,e=.returned (.tuple #[.int .i64 (0),.iface 406 (.pointer (some ⟨N,0,none⟩))])∧w.heap.size≤N∧w'.heap[N]? =some (.cells #[.string ⟨#[80,97,114,115,101,73,110,116]⟩,.string s,ev] 427 (0,0))∧Below w.heap.size w w':=by
 rcases r with v | _ | _
 ·exact absurd rfl (h1 v)
 ·exact Any.strconv_ParseInt_10_at64_syntax Tryz.laysC174 s hlim h ev w hv hev
 ·exact absurd rfl h2
open Go.RowKit in
theorem Tryz.strconv_ParseInt_10_at64_range(s:ByteArray)(hlim:s.size≤281474976710656)(h:Lib.parseIntB 64 s.data.toList=.range)(ev:Value)(w:World)(hv:w.cell? ⟨6,0,none⟩=some ev)(hev:ev=.nilIface∨∃te pe,ev=.iface te pe) :
  Calls prog 246 #[.string s,.int .i64 10,.int .i64 64] w fun e w'=>∃N,e=.returned (.tuple #[.int .i64 (Lib.intSat 64 s.data.toList),.iface 406 (.pointer (some ⟨N,0,none⟩))])∧w.heap.size≤N∧w'.heap[N]? =some (.cells #[.string ⟨#[80,97,114,115,101,73,110,116]⟩,.string s,ev] 427 (0,0))∧Below w.heap.size w w':=Any.strconv_ParseInt_10_at64_range Tryz.laysC174 s hlim h ev w hv hev
open Go.RowKit in
theorem Tryz.Buffer_Len_at(T:TypeId)(R:Nat→Option Value)(B b q:Nat)(bs:List Value)(w:World)(h:LibA.IsBuffer T R 5 B b q bs w) :
  Calls prog 165 #[.pointer (some ⟨b,q,none⟩)] w fun e w'=>e=.returned (.int .i64 bs.length)∧∃n,w'=w.drewN n:=Any.Buffer_Len_at Tryz.laysM181 T R B b q bs w h
open Go.RowKit in
theorem Tryz.Buffer_String_at(T:TypeId)(R:Nat→Option Value)(B b q:Nat)(l:List UInt8)(w:World)(h:LibA.IsBuffer T R 5 B b q (Lib.byteCells l) w) :
  Calls prog 166 #[.pointer (some ⟨b,q,none⟩)] w fun e w'=>e=.returned (.string ⟨l.toArray⟩)∧∃n,w'=w.drewN n:=Any.Buffer_String_at Tryz.laysM182 T R B b q l w h
open Go.RowKit in
theorem Tryz.Buffer_tryGrow_at(T:TypeId)(R:Nat→Option Value)(B b q n:Nat)(bs:List Value)(w:World)(h:LibA.IsBuffer T R 5 B b q bs w) :
  Calls prog 180 #[.pointer (some ⟨b,q,none⟩),.int .i64 n] w fun e w' =>
   (e=.returned (.tuple #[.int .i64 bs.length,.bool true])∧∃xs,xs.length=n∧LibA.IsBuffer T R 5 B b q (bs++xs) w'∧Below B w w'∧Lib.OthersKept 5 (some b) w w'∧w.grownBy w' (some b)) ∨
   (e=.returned (.tuple #[.int .i64 0,.bool false])∧w'=w∧LibA.NoRoom b q n w):=Any.Buffer_tryGrow_at Tryz.laysM251 T R B b q n bs w h
open Go.RowKit in
theorem Tryz.Buffer_grow_at(T:TypeId)(R:Nat→Option Value)(B b q n:Nat)(bs:List Value)(w:World)(h:LibA.IsBuffer T R 5 B b q bs w)(hnr:LibA.NoRoom b q n w)(hBw:B≤w.heap.size)(h1:∀v∈bs,v.oneCell'=true)(hlim:bs.length+n≤140737488355328) :
  Calls prog 181 #[.pointer (some ⟨b,q,none⟩),.int .i64 n] w fun e w'=>e=.returned (.int .i64 bs.length)∧∃xs,xs.length=n∧LibA.IsBuffer T R 5 B b q (bs++xs) w'∧Below B w w'∧Lib.OthersKept 5 (some b) w w'∧w.grownBy w' (some b):=Any.Buffer_grow_at Tryz.laysM252 T R B b q n bs w h hnr hBw h1 hlim
def Tryz.lays101_ren:Go.Shelf.Ren:=⟨fun | 101=>169 | 208=>185 | 206=>200 | n=>n,fun | 9=>9 | 4=>4 | 3=>3 | n=>n,fun | n=>n⟩
theorem Tryz.lays101:Go.Proofs.Lays.n101 prog Tryz.lays101_ren:=⟨by kernel_rfl,func169.trans (congrArg some (by kernel_rfl)),func200.trans (congrArg some (by kernel_rfl)),func185.trans (congrArg some (by kernel_rfl)),underlying3,isAgg3,sizeOf3,zeroValue3,underlying4,isAgg4,sizeOf4,zeroValue4,underlying9,isAgg9,sizeOf9,zeroValue9⟩
open Go.RowKit Go.Lib in
theorem Tryz.strings_TrimPrefix(s p:ByteArray)(w:World) :
  Calls prog 169 #[.string s,.string p] w fun e w'=>e=.returned (.string ⟨(Lib.trimPrefix s.data.toList p.data.toList).toArray⟩)∧w'=w:=Any.strings_TrimPrefix Tryz.lays101 s p w
def Tryz.lays102_ren:Go.Shelf.Ren:=⟨fun | 102=>170 | 209=>186 | 207=>201 | n=>n,fun | 9=>9 | 4=>4 | 3=>3 | n=>n,fun | n=>n⟩
theorem Tryz.lays102:Go.Proofs.Lays.n102 prog Tryz.lays102_ren:=⟨by kernel_rfl,func170.trans (congrArg some (by kernel_rfl)),func201.trans (congrArg some (by kernel_rfl)),func186.trans (congrArg some (by kernel_rfl)),underlying3,isAgg3,sizeOf3,zeroValue3,underlying4,isAgg4,sizeOf4,zeroValue4,underlying9,isAgg9,sizeOf9,zeroValue9⟩
open Go.RowKit Go.Lib in
theorem Tryz.strings_TrimSuffix(s p:ByteArray)(w:World)(hs:s.size≤9223372036854775807) :
  Calls prog 170 #[.string s,.string p] w fun e w'=>e=.returned (.string ⟨(Lib.trimSuffix s.data.toList p.data.toList).toArray⟩)∧w'=w:=Any.strings_TrimSuffix Tryz.lays102 s p w hs
def Tryz.lays110_ren:Go.Shelf.Ren:=⟨fun | 110=>167 | 109=>184 | n=>n,fun | 31=>27 | 9=>9 | 4=>4 | 3=>3 | 0=>0 | n=>n,fun | n=>n⟩
theorem Tryz.lays110:Go.Proofs.Lays.n110 prog Tryz.lays110_ren:=⟨by kernel_rfl,func184.trans (congrArg some (by kernel_rfl)),func167.trans (congrArg some (by kernel_rfl)),underlying0,isAgg0,sizeOf0,zeroValue0,underlying3,isAgg3,sizeOf3,zeroValue3,underlying4,isAgg4,sizeOf4,zeroValue4,underlying9,isAgg9,sizeOf9,zeroValue9,underlying27,isAgg27,sizeOf27,zeroValue27⟩
open Go.Lib in
theorem Tryz.slices_Contains_string(b off n c:Nat)(zs:List ByteArray)(x:ByteArray)(w:World)(hz:n≤zs.length)(hbig:n≤9223372036854775807)(hc:∀j,j<zs.length→w.cell? ⟨b,off+j,none⟩=some (.string (zs.getD j ByteArray.empty))) :
  Calls prog 167 #[.slice (some ⟨b,off,none⟩) n c,.string x] w fun e w'=>e=.returned (.bool (Lib.containsS (zs.take n) x))∧w'=w:=Any.slices_Contains_string Tryz.lays110 b off n c zs x w hz hbig hc
def Tryz.lays168_ren:Go.Shelf.Ren:=⟨fun | 168=>189 | 240=>202 | 242=>203 | 276=>215 | 278=>216 | n=>n,fun | 0=>0 | 3=>3 | 4=>4 | 5=>5 | 9=>9 | 20=>20 | 21=>21 | 37=>78 | 46=>162 | 51=>25 | 70=>358 | 72=>360 | 75=>104 | 164=>376 | 80=>242 | n=>n,fun | n=>n⟩
theorem Tryz.lays168:Go.Proofs.Lays.n168 prog Tryz.lays168_ren:=⟨by kernel_rfl,func189.trans (congrArg some (by kernel_rfl)),func202.trans (congrArg some (by kernel_rfl)),func203.trans (congrArg some (by kernel_rfl)),func215.trans (congrArg some (by kernel_rfl)),func216.trans (congrArg some (by kernel_rfl)),underlying0,isAgg0,sizeOf0,zeroValue0,underlying3,isAgg3,sizeOf3,zeroValue3,underlying4,isAgg4,sizeOf4,zeroValue4,underlying5,isAgg5,sizeOf5,zeroValue5,underlying9,isAgg9,sizeOf9,zeroValue9,underlying20,isAgg20,sizeOf20,zeroValue20,underlying21,isAgg21,sizeOf21,zeroValue21,underlying78,isAgg78,sizeOf78,zeroValue78,underlying162,isAgg162,sizeOf162,zeroValue162,underlying25,isAgg25,sizeOf25,zeroValue25,underlying358,isAgg358,sizeOf358,zeroValue358,underlying360,isAgg360,sizeOf360,zeroValue360,underlying104,isAgg104,sizeOf104,zeroValue104,underlying376,isAgg376,sizeOf376,zeroValue376⟩
theorem Tryz.Builder_Extra_168:Builder.Extra prog Tryz.lays168_ren:={
 sizeBuilder:=by kernel_rfl
 liesBuilder:=by kernel_rfl
 t5:=underlying5
 a5:=isAgg5
 z5:=sizeOf5
 v5:=zeroValue5
 infoByte:=by kernel_rfl
 cellsByte:=by kernel_rfl
 sizeByte:=by kernel_rfl
 neB5:=by decide}
open Go.RowKit in
theorem Tryz.Builder_WriteRune_k(B b:Nat)(bs:List Value)(r:Int)(hr0:-2147483648≤r)(hr1:r≤2147483647)(w:World)(h:Lib.IsBuilderF 360 5 B b bs w)(hlen:bs.length+4≤140737488355328)(hBw:B≤w.heap.size) :
  Calls prog 189 #[.pointer (some ⟨b,0,none⟩),.int .i32 r] w fun e w'=>e=.returned (.tuple #[.int .i64 (Lib.runeCells r).length,.nilIface])∧(Lib.BuilderAtF 360 5 B b (.pointer (some ⟨b,0,none⟩)) (bs++Lib.runeCells r) w'∧Below B w w'∧Lib.OthersKept 5 (some b) w w'):=Any.Builder_WriteRune_k Tryz.lays168 Tryz.Builder_Extra_168 B b bs r hr0 hr1 w h hlen hBw
end Go.Proofs
