/- FnComma: a last comma changes nothing; for every world. Part 32. -/
import Derived.Test.YtmhjkkkhdlnngaaGreatDoorZ31
set_option linter.all false
set_option maxRecDepth 100000
set_option maxHeartbeats 40000000
namespace Go.Proofs.Pg
open Go.RowKit
theorem Qa4{P:Program}{T:TypeId}{d:TypeDesc}(hu:P.underlying T=some d)(hd:(∃ms,d=.interface ms)→False)(xT:TypeId)(v:Value)(w:World) :
  (Instr.typeAssert (.iface T v) xT T true).run P w=.ok (.tuple #[v,.bool true]) w:=by
 unfold Instr.typeAssert;simp only[Sem.run_bind,run_underlying hu,Result.andThen_ok];cases d<;>first | exact(hd ⟨_,rfl⟩).elim | (simp only[if_true];rfl)
theorem QaU{P:Program}{T:TypeId}{d:TypeDesc}(hu:P.underlying T=some d)(hd:(∃ms,d=.interface ms)→False){z:Value}(hz:∀w,(zeroValue T).run P w=.ok z w)
  (xT t:TypeId)(v:Value)(ht:¬t=T)(w:World) :
  (Instr.typeAssert (.iface t v) xT T true).run P w=.ok (.tuple #[z,.bool false]) w:=by
 unfold Instr.typeAssert;simp only[Sem.run_bind,run_underlying hu,Result.andThen_ok];cases d<;>first | exact(hd ⟨_,rfl⟩).elim | (simp only[ht,if_false,if_true,Sem.run_bind,hz,Result.andThen_ok];rfl)
@[go_sem] theorem tn182(t:TypeId)(v:Value)(ht:¬t=182)(w:World):(Instr.typeAssert (.iface t v) 136 182 true).run Tryz.prog w=.ok (.tuple #[(Value.agg #[Value.nilIface]),.bool false]) w :=
 QaU Tryz.underlying182 (by rintro ⟨_,h⟩;cases h) Tryz.zeroValue182 136 t v ht w
@[go_sem] theorem ty182(v:Value)(w:World):(Instr.typeAssert (.iface 182 v) 136 182 true).run Tryz.prog w=.ok (.tuple #[v,.bool true]) w :=
 Qa4 Tryz.underlying182 (by rintro ⟨_,h⟩;cases h) 136 v w
@[go_sem] theorem tn186(t:TypeId)(v:Value)(ht:¬t=186)(w:World):(Instr.typeAssert (.iface t v) 136 186 true).run Tryz.prog w=.ok (.tuple #[(Value.agg #[Value.string {data:=#[]}]),.bool false]) w :=
 QaU Tryz.underlying186 (by rintro ⟨_,h⟩;cases h) Tryz.zeroValue186 136 t v ht w
@[go_sem] theorem ty186(v:Value)(w:World):(Instr.typeAssert (.iface 186 v) 136 186 true).run Tryz.prog w=.ok (.tuple #[v,.bool true]) w :=
 Qa4 Tryz.underlying186 (by rintro ⟨_,h⟩;cases h) 136 v w
@[go_sem] theorem tn188(t:TypeId)(v:Value)(ht:¬t=188)(w:World):(Instr.typeAssert (.iface t v) 136 188 true).run Tryz.prog w=.ok (.tuple #[(Value.agg #[Value.nilIface,Value.nilIface,Value.nilIface]),.bool false]) w :=
 QaU Tryz.underlying188 (by rintro ⟨_,h⟩;cases h) Tryz.zeroValue188 136 t v ht w
@[go_sem] theorem ty188(v:Value)(w:World):(Instr.typeAssert (.iface 188 v) 136 188 true).run Tryz.prog w=.ok (.tuple #[v,.bool true]) w :=
 Qa4 Tryz.underlying188 (by rintro ⟨_,h⟩;cases h) 136 v w
@[go_sem] theorem tn193(t:TypeId)(v:Value)(ht:¬t=193)(w:World):(Instr.typeAssert (.iface t v) 136 193 true).run Tryz.prog w=.ok (.tuple #[(Value.agg #[Value.nilIface,Value.string {data:=#[]}]),.bool false]) w :=
 QaU Tryz.underlying193 (by rintro ⟨_,h⟩;cases h) Tryz.zeroValue193 136 t v ht w
@[go_sem] theorem ty193(v:Value)(w:World):(Instr.typeAssert (.iface 193 v) 136 193 true).run Tryz.prog w=.ok (.tuple #[v,.bool true]) w :=
 Qa4 Tryz.underlying193 (by rintro ⟨_,h⟩;cases h) 136 v w
@[go_sem] theorem tn194(t:TypeId)(v:Value)(ht:¬t=194)(w:World):(Instr.typeAssert (.iface t v) 136 194 true).run Tryz.prog w=.ok (.tuple #[(Value.agg #[Value.nilIface,Value.string {data:=#[]}]),.bool false]) w :=
 QaU Tryz.underlying194 (by rintro ⟨_,h⟩;cases h) Tryz.zeroValue194 136 t v ht w
@[go_sem] theorem ty194(v:Value)(w:World):(Instr.typeAssert (.iface 194 v) 136 194 true).run Tryz.prog w=.ok (.tuple #[v,.bool true]) w :=
 Qa4 Tryz.underlying194 (by rintro ⟨_,h⟩;cases h) 136 v w
@[go_sem] theorem tn199(t:TypeId)(v:Value)(ht:¬t=199)(w:World):(Instr.typeAssert (.iface t v) 136 199 true).run Tryz.prog w=.ok (.tuple #[(Value.agg #[Value.nilIface,Value.slice none 0 0]),.bool false]) w :=
 QaU Tryz.underlying199 (by rintro ⟨_,h⟩;cases h) Tryz.zeroValue199 136 t v ht w
@[go_sem] theorem ty199(v:Value)(w:World):(Instr.typeAssert (.iface 199 v) 136 199 true).run Tryz.prog w=.ok (.tuple #[v,.bool true]) w :=
 Qa4 Tryz.underlying199 (by rintro ⟨_,h⟩;cases h) 136 v w
@[go_sem] theorem tn202(t:TypeId)(v:Value)(ht:¬t=202)(w:World):(Instr.typeAssert (.iface t v) 136 202 true).run Tryz.prog w=.ok (.tuple #[(Value.agg #[Value.nilIface,Value.string {data:=#[]}]),.bool false]) w :=
 QaU Tryz.underlying202 (by rintro ⟨_,h⟩;cases h) Tryz.zeroValue202 136 t v ht w
@[go_sem] theorem ty202(v:Value)(w:World):(Instr.typeAssert (.iface 202 v) 136 202 true).run Tryz.prog w=.ok (.tuple #[v,.bool true]) w :=
 Qa4 Tryz.underlying202 (by rintro ⟨_,h⟩;cases h) 136 v w
@[go_sem] theorem tn204(t:TypeId)(v:Value)(ht:¬t=204)(w:World):(Instr.typeAssert (.iface t v) 136 204 true).run Tryz.prog w=.ok (.tuple #[(Value.agg #[Value.nilIface,Value.string {data:=#[]},Value.nilIface]),.bool false]) w :=
 QaU Tryz.underlying204 (by rintro ⟨_,h⟩;cases h) Tryz.zeroValue204 136 t v ht w
@[go_sem] theorem ty204(v:Value)(w:World):(Instr.typeAssert (.iface 204 v) 136 204 true).run Tryz.prog w=.ok (.tuple #[v,.bool true]) w :=
 Qa4 Tryz.underlying204 (by rintro ⟨_,h⟩;cases h) 136 v w
@[go_sem] theorem tn208(t:TypeId)(v:Value)(ht:¬t=208)(w:World):(Instr.typeAssert (.iface t v) 136 208 true).run Tryz.prog w=.ok (.tuple #[(Value.agg #[Value.nilIface]),.bool false]) w :=
 QaU Tryz.underlying208 (by rintro ⟨_,h⟩;cases h) Tryz.zeroValue208 136 t v ht w
@[go_sem] theorem ty208(v:Value)(w:World):(Instr.typeAssert (.iface 208 v) 136 208 true).run Tryz.prog w=.ok (.tuple #[v,.bool true]) w :=
 Qa4 Tryz.underlying208 (by rintro ⟨_,h⟩;cases h) 136 v w
@[go_sem] theorem tn209(t:TypeId)(v:Value)(ht:¬t=209)(w:World):(Instr.typeAssert (.iface t v) 136 209 true).run Tryz.prog w=.ok (.tuple #[(Value.agg #[Value.nilIface]),.bool false]) w :=
 QaU Tryz.underlying209 (by rintro ⟨_,h⟩;cases h) Tryz.zeroValue209 136 t v ht w
@[go_sem] theorem ty209(v:Value)(w:World):(Instr.typeAssert (.iface 209 v) 136 209 true).run Tryz.prog w=.ok (.tuple #[v,.bool true]) w :=
 Qa4 Tryz.underlying209 (by rintro ⟨_,h⟩;cases h) 136 v w
@[go_sem] theorem tn210(t:TypeId)(v:Value)(ht:¬t=210)(w:World):(Instr.typeAssert (.iface t v) 136 210 true).run Tryz.prog w=.ok (.tuple #[(Value.agg #[Value.nilIface]),.bool false]) w :=
 QaU Tryz.underlying210 (by rintro ⟨_,h⟩;cases h) Tryz.zeroValue210 136 t v ht w
@[go_sem] theorem ty210(v:Value)(w:World):(Instr.typeAssert (.iface 210 v) 136 210 true).run Tryz.prog w=.ok (.tuple #[v,.bool true]) w :=
 Qa4 Tryz.underlying210 (by rintro ⟨_,h⟩;cases h) 136 v w
@[go_sem] theorem tn214(t:TypeId)(v:Value)(ht:¬t=214)(w:World):(Instr.typeAssert (.iface t v) 136 214 true).run Tryz.prog w=.ok (.tuple #[(Value.agg #[Value.string {data:=#[]},Value.slice none 0 0]),.bool false]) w :=
 QaU Tryz.underlying214 (by rintro ⟨_,h⟩;cases h) Tryz.zeroValue214 136 t v ht w
@[go_sem] theorem ty214(v:Value)(w:World):(Instr.typeAssert (.iface 214 v) 136 214 true).run Tryz.prog w=.ok (.tuple #[v,.bool true]) w :=
 Qa4 Tryz.underlying214 (by rintro ⟨_,h⟩;cases h) 136 v w
@[go_sem] theorem tn216(t:TypeId)(v:Value)(ht:¬t=216)(w:World):(Instr.typeAssert (.iface t v) 136 216 true).run Tryz.prog w=.ok (.tuple #[(Value.agg #[Value.slice none 0 0]),.bool false]) w :=
 QaU Tryz.underlying216 (by rintro ⟨_,h⟩;cases h) Tryz.zeroValue216 136 t v ht w
@[go_sem] theorem ty216(v:Value)(w:World):(Instr.typeAssert (.iface 216 v) 136 216 true).run Tryz.prog w=.ok (.tuple #[v,.bool true]) w :=
 Qa4 Tryz.underlying216 (by rintro ⟨_,h⟩;cases h) 136 v w
@[go_sem] theorem tn219(t:TypeId)(v:Value)(ht:¬t=219)(w:World):(Instr.typeAssert (.iface t v) 136 219 true).run Tryz.prog w=.ok (.tuple #[(Value.agg #[Value.slice none 0 0]),.bool false]) w :=
 QaU Tryz.underlying219 (by rintro ⟨_,h⟩;cases h) Tryz.zeroValue219 136 t v ht w
@[go_sem] theorem ty219(v:Value)(w:World):(Instr.typeAssert (.iface 219 v) 136 219 true).run Tryz.prog w=.ok (.tuple #[v,.bool true]) w :=
 Qa4 Tryz.underlying219 (by rintro ⟨_,h⟩;cases h) 136 v w
@[go_sem] theorem tn260(t:TypeId)(v:Value)(ht:¬t=260)(w:World):(Instr.typeAssert (.iface t v) 136 260 true).run Tryz.prog w=.ok (.tuple #[(Value.agg #[Value.nilIface,Value.nilIface]),.bool false]) w :=
 QaU Tryz.underlying260 (by rintro ⟨_,h⟩;cases h) Tryz.zeroValue260 136 t v ht w
@[go_sem] theorem ty260(v:Value)(w:World):(Instr.typeAssert (.iface 260 v) 136 260 true).run Tryz.prog w=.ok (.tuple #[v,.bool true]) w :=
 Qa4 Tryz.underlying260 (by rintro ⟨_,h⟩;cases h) 136 v w
@[go_sem] theorem tn262(t:TypeId)(v:Value)(ht:¬t=262)(w:World):(Instr.typeAssert (.iface t v) 136 262 true).run Tryz.prog w=.ok (.tuple #[(Value.agg #[Value.nilIface,Value.nilIface]),.bool false]) w :=
 QaU Tryz.underlying262 (by rintro ⟨_,h⟩;cases h) Tryz.zeroValue262 136 t v ht w
@[go_sem] theorem ty262(v:Value)(w:World):(Instr.typeAssert (.iface 262 v) 136 262 true).run Tryz.prog w=.ok (.tuple #[v,.bool true]) w :=
 Qa4 Tryz.underlying262 (by rintro ⟨_,h⟩;cases h) 136 v w
@[go_sem] theorem tn263(t:TypeId)(v:Value)(ht:¬t=263)(w:World):(Instr.typeAssert (.iface t v) 136 263 true).run Tryz.prog w=.ok (.tuple #[(Value.agg #[Value.nilIface,Value.nilIface]),.bool false]) w :=
 QaU Tryz.underlying263 (by rintro ⟨_,h⟩;cases h) Tryz.zeroValue263 136 t v ht w
@[go_sem] theorem ty263(v:Value)(w:World):(Instr.typeAssert (.iface 263 v) 136 263 true).run Tryz.prog w=.ok (.tuple #[v,.bool true]) w :=
 Qa4 Tryz.underlying263 (by rintro ⟨_,h⟩;cases h) 136 v w
@[go_sem] theorem tn264(t:TypeId)(v:Value)(ht:¬t=264)(w:World):(Instr.typeAssert (.iface t v) 136 264 true).run Tryz.prog w=.ok (.tuple #[(Value.agg #[Value.nilIface,Value.nilIface]),.bool false]) w :=
 QaU Tryz.underlying264 (by rintro ⟨_,h⟩;cases h) Tryz.zeroValue264 136 t v ht w
@[go_sem] theorem ty264(v:Value)(w:World):(Instr.typeAssert (.iface 264 v) 136 264 true).run Tryz.prog w=.ok (.tuple #[v,.bool true]) w :=
 Qa4 Tryz.underlying264 (by rintro ⟨_,h⟩;cases h) 136 v w
@[go_sem] theorem tn265(t:TypeId)(v:Value)(ht:¬t=265)(w:World):(Instr.typeAssert (.iface t v) 136 265 true).run Tryz.prog w=.ok (.tuple #[(Value.agg #[Value.nilIface,Value.nilIface]),.bool false]) w :=
 QaU Tryz.underlying265 (by rintro ⟨_,h⟩;cases h) Tryz.zeroValue265 136 t v ht w
@[go_sem] theorem ty265(v:Value)(w:World):(Instr.typeAssert (.iface 265 v) 136 265 true).run Tryz.prog w=.ok (.tuple #[v,.bool true]) w :=
 Qa4 Tryz.underlying265 (by rintro ⟨_,h⟩;cases h) 136 v w
@[go_sem] theorem tn266(t:TypeId)(v:Value)(ht:¬t=266)(w:World):(Instr.typeAssert (.iface t v) 136 266 true).run Tryz.prog w=.ok (.tuple #[(Value.agg #[Value.nilIface,Value.nilIface]),.bool false]) w :=
 QaU Tryz.underlying266 (by rintro ⟨_,h⟩;cases h) Tryz.zeroValue266 136 t v ht w
@[go_sem] theorem ty266(v:Value)(w:World):(Instr.typeAssert (.iface 266 v) 136 266 true).run Tryz.prog w=.ok (.tuple #[v,.bool true]) w :=
 Qa4 Tryz.underlying266 (by rintro ⟨_,h⟩;cases h) 136 v w
@[go_sem] theorem tn267(t:TypeId)(v:Value)(ht:¬t=267)(w:World):(Instr.typeAssert (.iface t v) 136 267 true).run Tryz.prog w=.ok (.tuple #[(Value.agg #[Value.nilIface,Value.nilIface]),.bool false]) w :=
 QaU Tryz.underlying267 (by rintro ⟨_,h⟩;cases h) Tryz.zeroValue267 136 t v ht w
@[go_sem] theorem ty267(v:Value)(w:World):(Instr.typeAssert (.iface 267 v) 136 267 true).run Tryz.prog w=.ok (.tuple #[v,.bool true]) w :=
 Qa4 Tryz.underlying267 (by rintro ⟨_,h⟩;cases h) 136 v w
@[go_sem] theorem tn268(t:TypeId)(v:Value)(ht:¬t=268)(w:World):(Instr.typeAssert (.iface t v) 136 268 true).run Tryz.prog w=.ok (.tuple #[(Value.agg #[Value.nilIface,Value.nilIface]),.bool false]) w :=
 QaU Tryz.underlying268 (by rintro ⟨_,h⟩;cases h) Tryz.zeroValue268 136 t v ht w
@[go_sem] theorem ty268(v:Value)(w:World):(Instr.typeAssert (.iface 268 v) 136 268 true).run Tryz.prog w=.ok (.tuple #[v,.bool true]) w :=
 Qa4 Tryz.underlying268 (by rintro ⟨_,h⟩;cases h) 136 v w
@[go_sem] theorem tn269(t:TypeId)(v:Value)(ht:¬t=269)(w:World):(Instr.typeAssert (.iface t v) 136 269 true).run Tryz.prog w=.ok (.tuple #[(Value.agg #[Value.nilIface,Value.nilIface]),.bool false]) w :=
 QaU Tryz.underlying269 (by rintro ⟨_,h⟩;cases h) Tryz.zeroValue269 136 t v ht w
@[go_sem] theorem ty269(v:Value)(w:World):(Instr.typeAssert (.iface 269 v) 136 269 true).run Tryz.prog w=.ok (.tuple #[v,.bool true]) w :=
 Qa4 Tryz.underlying269 (by rintro ⟨_,h⟩;cases h) 136 v w
@[go_sem] theorem tn270(t:TypeId)(v:Value)(ht:¬t=270)(w:World):(Instr.typeAssert (.iface t v) 136 270 true).run Tryz.prog w=.ok (.tuple #[(Value.agg #[Value.nilIface,Value.nilIface]),.bool false]) w :=
 QaU Tryz.underlying270 (by rintro ⟨_,h⟩;cases h) Tryz.zeroValue270 136 t v ht w
@[go_sem] theorem ty270(v:Value)(w:World):(Instr.typeAssert (.iface 270 v) 136 270 true).run Tryz.prog w=.ok (.tuple #[v,.bool true]) w :=
 Qa4 Tryz.underlying270 (by rintro ⟨_,h⟩;cases h) 136 v w
@[go_sem] theorem tn271(t:TypeId)(v:Value)(ht:¬t=271)(w:World):(Instr.typeAssert (.iface t v) 136 271 true).run Tryz.prog w=.ok (.tuple #[(Value.agg #[Value.nilIface,Value.nilIface]),.bool false]) w :=
 QaU Tryz.underlying271 (by rintro ⟨_,h⟩;cases h) Tryz.zeroValue271 136 t v ht w
@[go_sem] theorem ty271(v:Value)(w:World):(Instr.typeAssert (.iface 271 v) 136 271 true).run Tryz.prog w=.ok (.tuple #[v,.bool true]) w :=
 Qa4 Tryz.underlying271 (by rintro ⟨_,h⟩;cases h) 136 v w
@[go_sem] theorem tn275(t:TypeId)(v:Value)(ht:¬t=275)(w:World):(Instr.typeAssert (.iface t v) 136 275 true).run Tryz.prog w=.ok (.tuple #[(Value.agg #[Value.nilIface,Value.nilIface]),.bool false]) w :=
 QaU Tryz.underlying275 (by rintro ⟨_,h⟩;cases h) Tryz.zeroValue275 136 t v ht w
@[go_sem] theorem ty275(v:Value)(w:World):(Instr.typeAssert (.iface 275 v) 136 275 true).run Tryz.prog w=.ok (.tuple #[v,.bool true]) w :=
 Qa4 Tryz.underlying275 (by rintro ⟨_,h⟩;cases h) 136 v w
@[go_sem] theorem tn276(t:TypeId)(v:Value)(ht:¬t=276)(w:World):(Instr.typeAssert (.iface t v) 136 276 true).run Tryz.prog w=.ok (.tuple #[(Value.agg #[Value.nilIface,Value.nilIface]),.bool false]) w :=
 QaU Tryz.underlying276 (by rintro ⟨_,h⟩;cases h) Tryz.zeroValue276 136 t v ht w
@[go_sem] theorem ty276(v:Value)(w:World):(Instr.typeAssert (.iface 276 v) 136 276 true).run Tryz.prog w=.ok (.tuple #[v,.bool true]) w :=
 Qa4 Tryz.underlying276 (by rintro ⟨_,h⟩;cases h) 136 v w
@[go_sem] theorem tn277(t:TypeId)(v:Value)(ht:¬t=277)(w:World):(Instr.typeAssert (.iface t v) 136 277 true).run Tryz.prog w=.ok (.tuple #[(Value.agg #[Value.nilIface,Value.nilIface]),.bool false]) w :=
 QaU Tryz.underlying277 (by rintro ⟨_,h⟩;cases h) Tryz.zeroValue277 136 t v ht w
@[go_sem] theorem ty277(v:Value)(w:World):(Instr.typeAssert (.iface 277 v) 136 277 true).run Tryz.prog w=.ok (.tuple #[v,.bool true]) w :=
 Qa4 Tryz.underlying277 (by rintro ⟨_,h⟩;cases h) 136 v w
@[go_sem] theorem tn278(t:TypeId)(v:Value)(ht:¬t=278)(w:World):(Instr.typeAssert (.iface t v) 136 278 true).run Tryz.prog w=.ok (.tuple #[(Value.agg #[Value.nilIface,Value.nilIface]),.bool false]) w :=
 QaU Tryz.underlying278 (by rintro ⟨_,h⟩;cases h) Tryz.zeroValue278 136 t v ht w
@[go_sem] theorem ty278(v:Value)(w:World):(Instr.typeAssert (.iface 278 v) 136 278 true).run Tryz.prog w=.ok (.tuple #[v,.bool true]) w :=
 Qa4 Tryz.underlying278 (by rintro ⟨_,h⟩;cases h) 136 v w
@[go_sem] theorem tn279(t:TypeId)(v:Value)(ht:¬t=279)(w:World):(Instr.typeAssert (.iface t v) 136 279 true).run Tryz.prog w=.ok (.tuple #[(Value.agg #[Value.nilIface,Value.nilIface]),.bool false]) w :=
 QaU Tryz.underlying279 (by rintro ⟨_,h⟩;cases h) Tryz.zeroValue279 136 t v ht w
@[go_sem] theorem ty279(v:Value)(w:World):(Instr.typeAssert (.iface 279 v) 136 279 true).run Tryz.prog w=.ok (.tuple #[v,.bool true]) w :=
 Qa4 Tryz.underlying279 (by rintro ⟨_,h⟩;cases h) 136 v w
@[go_sem] theorem tn280(t:TypeId)(v:Value)(ht:¬t=280)(w:World):(Instr.typeAssert (.iface t v) 136 280 true).run Tryz.prog w=.ok (.tuple #[(Value.agg #[Value.nilIface,Value.nilIface]),.bool false]) w :=
 QaU Tryz.underlying280 (by rintro ⟨_,h⟩;cases h) Tryz.zeroValue280 136 t v ht w
@[go_sem] theorem ty280(v:Value)(w:World):(Instr.typeAssert (.iface 280 v) 136 280 true).run Tryz.prog w=.ok (.tuple #[v,.bool true]) w :=
 Qa4 Tryz.underlying280 (by rintro ⟨_,h⟩;cases h) 136 v w
@[go_sem] theorem tn252(t:TypeId)(v:Value)(ht:¬t=252)(w:World):(Instr.typeAssert (.iface t v) 180 252 true).run Tryz.prog w=.ok (.tuple #[(Value.bool false),.bool false]) w :=
 QaU Tryz.underlying252 (by rintro ⟨_,h⟩;cases h) Tryz.zeroValue252 180 t v ht w
@[go_sem] theorem ty252(v:Value)(w:World):(Instr.typeAssert (.iface 252 v) 180 252 true).run Tryz.prog w=.ok (.tuple #[v,.bool true]) w :=
 Qa4 Tryz.underlying252 (by rintro ⟨_,h⟩;cases h) 180 v w
@[go_sem] theorem tn253(t:TypeId)(v:Value)(ht:¬t=253)(w:World):(Instr.typeAssert (.iface t v) 180 253 true).run Tryz.prog w=.ok (.tuple #[(Value.int IntKind.i64 0),.bool false]) w :=
 QaU Tryz.underlying253 (by rintro ⟨_,h⟩;cases h) Tryz.zeroValue253 180 t v ht w
@[go_sem] theorem ty253(v:Value)(w:World):(Instr.typeAssert (.iface 253 v) 180 253 true).run Tryz.prog w=.ok (.tuple #[v,.bool true]) w :=
 Qa4 Tryz.underlying253 (by rintro ⟨_,h⟩;cases h) 180 v w
@[go_sem] theorem tn131(t:TypeId)(v:Value)(ht:¬t=131)(w:World):(Instr.typeAssert (.iface t v) 180 131 true).run Tryz.prog w=.ok (.tuple #[(Value.string {data:=#[]}),.bool false]) w :=
 QaU Tryz.underlying131 (by rintro ⟨_,h⟩;cases h) Tryz.zeroValue131 180 t v ht w
@[go_sem] theorem ty131(v:Value)(w:World):(Instr.typeAssert (.iface 131 v) 180 131 true).run Tryz.prog w=.ok (.tuple #[v,.bool true]) w :=
 Qa4 Tryz.underlying131 (by rintro ⟨_,h⟩;cases h) 180 v w
@[go_sem] theorem tn167(t:TypeId)(v:Value)(ht:¬t=167)(w:World):(Instr.typeAssert (.iface t v) 180 167 true).run Tryz.prog w=.ok (.tuple #[(Value.agg #[Value.string {data:=#[]},Value.string {data:=#[]}]),.bool false]) w :=
 QaU Tryz.underlying167 (by rintro ⟨_,h⟩;cases h) Tryz.zeroValue167 180 t v ht w
@[go_sem] theorem ty167(v:Value)(w:World):(Instr.typeAssert (.iface 167 v) 180 167 true).run Tryz.prog w=.ok (.tuple #[v,.bool true]) w :=
 Qa4 Tryz.underlying167 (by rintro ⟨_,h⟩;cases h) 180 v w
@[go_sem] theorem tn169(t:TypeId)(v:Value)(ht:¬t=169)(w:World):(Instr.typeAssert (.iface t v) 164 169 true).run Tryz.prog w=.ok (.tuple #[(Value.agg #[Value.string {data:=#[]},Value.string {data:=#[]}]),.bool false]) w :=
 QaU Tryz.underlying169 (by rintro ⟨_,h⟩;cases h) Tryz.zeroValue169 164 t v ht w
@[go_sem] theorem ty169(v:Value)(w:World):(Instr.typeAssert (.iface 169 v) 164 169 true).run Tryz.prog w=.ok (.tuple #[v,.bool true]) w :=
 Qa4 Tryz.underlying169 (by rintro ⟨_,h⟩;cases h) 164 v w
@[go_sem] theorem tn171(t:TypeId)(v:Value)(ht:¬t=171)(w:World):(Instr.typeAssert (.iface t v) 164 171 true).run Tryz.prog w=.ok (.tuple #[(Value.agg #[Value.string {data:=#[]},Value.string {data:=#[]}]),.bool false]) w :=
 QaU Tryz.underlying171 (by rintro ⟨_,h⟩;cases h) Tryz.zeroValue171 164 t v ht w
@[go_sem] theorem ty171(v:Value)(w:World):(Instr.typeAssert (.iface 171 v) 164 171 true).run Tryz.prog w=.ok (.tuple #[v,.bool true]) w :=
 Qa4 Tryz.underlying171 (by rintro ⟨_,h⟩;cases h) 164 v w
@[go_sem] theorem tn174(t:TypeId)(v:Value)(ht:¬t=174)(w:World):(Instr.typeAssert (.iface t v) 164 174 true).run Tryz.prog w=.ok (.tuple #[(Value.agg #[Value.slice none 0 0]),.bool false]) w :=
 QaU Tryz.underlying174 (by rintro ⟨_,h⟩;cases h) Tryz.zeroValue174 164 t v ht w
@[go_sem] theorem ty174(v:Value)(w:World):(Instr.typeAssert (.iface 174 v) 164 174 true).run Tryz.prog w=.ok (.tuple #[v,.bool true]) w :=
 Qa4 Tryz.underlying174 (by rintro ⟨_,h⟩;cases h) 164 v w
@[go_sem] theorem tn176(t:TypeId)(v:Value)(ht:¬t=176)(w:World):(Instr.typeAssert (.iface t v) 164 176 true).run Tryz.prog w=.ok (.tuple #[(Value.agg #[Value.string {data:=#[]}]),.bool false]) w :=
 QaU Tryz.underlying176 (by rintro ⟨_,h⟩;cases h) Tryz.zeroValue176 164 t v ht w
@[go_sem] theorem ty176(v:Value)(w:World):(Instr.typeAssert (.iface 176 v) 164 176 true).run Tryz.prog w=.ok (.tuple #[v,.bool true]) w :=
 Qa4 Tryz.underlying176 (by rintro ⟨_,h⟩;cases h) 164 v w
@[go_sem] theorem tn178(t:TypeId)(v:Value)(ht:¬t=178)(w:World):(Instr.typeAssert (.iface t v) 164 178 true).run Tryz.prog w=.ok (.tuple #[(Value.agg #[Value.string {data:=#[]},Value.string {data:=#[]},Value.string {data:=#[]}]),.bool false]) w :=
 QaU Tryz.underlying178 (by rintro ⟨_,h⟩;cases h) Tryz.zeroValue178 164 t v ht w
@[go_sem] theorem ty178(v:Value)(w:World):(Instr.typeAssert (.iface 178 v) 164 178 true).run Tryz.prog w=.ok (.tuple #[v,.bool true]) w :=
 Qa4 Tryz.underlying178 (by rintro ⟨_,h⟩;cases h) 164 v w
@[go_sem] theorem tn9(t:TypeId)(v:Value)(ht:¬t=9)(w:World):(Instr.typeAssert (.iface t v) 20 9 true).run Tryz.prog w=.ok (.tuple #[(Value.string {data:=#[]}),.bool false]) w :=
 QaU Tryz.underlying9 (by rintro ⟨_,h⟩;cases h) Tryz.zeroValue9 20 t v ht w
@[go_sem] theorem ty9(v:Value)(w:World):(Instr.typeAssert (.iface 9 v) 20 9 true).run Tryz.prog w=.ok (.tuple #[v,.bool true]) w :=
 Qa4 Tryz.underlying9 (by rintro ⟨_,h⟩;cases h) 20 v w
end Go.Proofs.Pg
namespace Go.Proofs.Pg
open Go.RowKit
attribute [local go_sem] Oper.semAt_some
theorem Qh5{w:World}{v:Value}:RowAt (w.alloc (.cells #[v] 136)) w.heap.size 136 (some ⟨w.heap.size,0,none⟩) 1 (fun _=>v) :=
 .inr ⟨w.heap.size,0,#[v],(0,0),rfl,Nat.le_refl _,heap_alloc_new w _,fun i hi=>by
  have h0:i=0:=by omega
  subst h0;rfl⟩
theorem QcC{a:Ex}{y:PEx}(hC:PxC a y)(w w0:World)(op:Int)(s:ByteArray)(lo c:Nat)(v:Value)(blk:Nat)(hr:w=w0.alloc (.cells #[v] 136))(hb:w0.heap.size=blk)(hn:NodeIs w lo v a) :
  Calls Tryz.prog 65 #[.int .i64 op,.string s,.slice (some ⟨blk,0,none⟩) 1 c] w (PxP w (.mk op s pv0 [] [] [y])):=by
 subst hr;subst hb;exact Qe6 (l:=[a]) (ys:=[y]) rfl (fun i a' y' h1 h2=>by
  have hi:i=0:=by have:=(List.getElem?_eq_some_iff.1 h1).1;simp at this;exact this
  subst hi;simp at h1 h2;subst h1;subst h2;exact hC) _ op s 0 _ c (fun _=>v) (Qh5.mono (Nat.zero_le _)) (fun i a' h1=>by
  have hi:i=0:=by have:=(List.getElem?_eq_some_iff.1 h1).1;simp at this;exact this
  subst hi;simp at h1;subst h1;exact hn.mono (Nat.zero_le _)) (by simp)
theorem Qh6{a b:Ex}{y z:PEx}(hC:PxC a y)(hD:PxC b z)(w w0:World)(op:Int)(s:ByteArray)(lo c:Nat)(v u:Value)(blk:Nat)(hr:w=w0.alloc (.cells #[v,u] 136))(hb:w0.heap.size=blk)(hn:NodeIs w lo v a)(hm:NodeIs w lo u b) :
  Calls Tryz.prog 65 #[.int .i64 op,.string s,.slice (some ⟨blk,0,none⟩) 2 c] w (PxP w (.mk op s pv0 [] [] [y,z])):=by
 subst hr;subst hb;refine Qe6 (l:=[a,b]) (ys:=[y,z]) rfl (fun i a' y' h1 h2=>?_) _ op s 0 _ c (fun i=>if i=0 then v else u) (.inr ⟨w0.heap.size,0,#[v,u],(0,0),rfl,Nat.zero_le _,heap_alloc_new w0 _,fun i hi=>?_⟩) (fun i a' h1=>?_) (by simp)
 ·match i,h1,h2 with
  | 0,h1,h2=>simp at h1 h2;subst h1;subst h2;exact hC
  | 1,h1,h2=>simp at h1 h2;subst h1;subst h2;exact hD
 ·match i,hi with
  | 0,_=>rfl
  | 1,_=>rfl
 ·match i,h1 with
  | 0,h1=>simp at h1;subst h1;exact hn.mono (Nat.zero_le _)
  | 1,h1=>simp at h1;subst h1;exact hm.mono (Nat.zero_le _)
theorem many3_c{a b c:Ex}{y z x:PEx}(hC:PxC a y)(hD:PxC b z)(hE:PxC c x)(w w0:World)(op:Int)(s:ByteArray)(lo k:Nat)(v u t:Value)(blk:Nat)(hr:w=w0.alloc (.cells #[v,u,t] 136))(hb:w0.heap.size=blk)(hn:NodeIs w lo v a)(hm:NodeIs w lo u b)(ho:NodeIs w lo t c) :
  Calls Tryz.prog 65 #[.int .i64 op,.string s,.slice (some ⟨blk,0,none⟩) 3 k] w (PxP w (.mk op s pv0 [] [] [y,z,x])):=by
 subst hr;subst hb;refine Qe6 (l:=[a,b,c]) (ys:=[y,z,x]) rfl (fun i a' y' h1 h2=>?_) _ op s 0 _ k (fun i=>if i=0 then v else if i=1 then u else t) (.inr ⟨w0.heap.size,0,#[v,u,t],(0,0),rfl,Nat.zero_le _,heap_alloc_new w0 _,fun i hi=>?_⟩) (fun i a' h1=>?_) (by simp)
 ·match i,h1,h2 with
  | 0,h1,h2=>simp at h1 h2;subst h1;subst h2;exact hC
  | 1,h1,h2=>simp at h1 h2;subst h1;subst h2;exact hD
  | 2,h1,h2=>simp at h1 h2;subst h1;subst h2;exact hE
 ·match i,hi with
  | 0,_=>rfl
  | 1,_=>rfl
  | 2,_=>rfl
 ·match i,h1 with
  | 0,h1=>simp at h1;subst h1;exact hn.mono (Nat.zero_le _)
  | 1,h1=>simp at h1;subst h1;exact hm.mono (Nat.zero_le _)
  | 2,h1=>simp at h1;subst h1;exact ho.mono (Nat.zero_le _)
theorem PxIs.get{w:World}{U:Nat→Prop}{cs:List Value}{x:PEx}(h:PxIs w U cs x):∃op s kd nn vs vt pk nk ck pp np cp pl nl cl,cs=[.int .i64 op,.string s,.int .i64 kd,.int .i64 nn,.string vs,.string vt,.slice none 0 0,.slice none 0 0,.slice pk nk ck,.slice pp np cp,.slice pl nl cl]:=by
 cases h;exact⟨_,_,_,_,_,_,_,_,_,_,_,_,_,_,_,rfl⟩
theorem QbV{w W w2 w9:World}{R:Nat}{cs:List Value}{x:PEx}(hp:PxIs w2 (W.heap.size≤·) cs x)(hb:Below w.heap.size w w2)(hE:Ext (·=R) w2 w9)(hR:w.heap.size≤R)(hW:R<W.heap.size):PxP w x (.returned (.tuple #[.agg cs.toArray,.bool true])) w9 :=
 ⟨((Ext.below (S:=fun _=>False) hb).trans' hE (fun d hd=>by omega)).toBelow (fun _ h=>h.elim) (Nat.le_refl _),cs,hp.ext hE (fun d hd _=>by omega),rfl⟩
theorem Qa6{w:World}{R:Nat}(h:w.heap[R]? =some (.cells xZero 33 (0,0))):w.cell? ⟨R,0,none⟩=some (.int .i64 0)∧w.cell? ⟨R,1,none⟩=some (.string ⟨#[]⟩)∧w.cell? ⟨R,2,none⟩=some (.int .i64 0)∧w.cell? ⟨R,3,none⟩=some (.int .i64 0)∧w.cell? ⟨R,4,none⟩=some (.string ⟨#[]⟩)∧w.cell? ⟨R,5,none⟩=some (.string ⟨#[]⟩)∧w.cell? ⟨R,6,none⟩=some (.slice none 0 0)∧w.cell? ⟨R,7,none⟩=some (.slice none 0 0)∧w.cell? ⟨R,8,none⟩=some (.slice none 0 0)∧w.cell? ⟨R,9,none⟩=some (.slice none 0 0)∧w.cell? ⟨R,10,none⟩=some (.slice none 0 0)∧w.frozen? ⟨R,0,none⟩=false∧w.frozen? ⟨R,1,none⟩=false∧w.frozen? ⟨R,2,none⟩=false∧w.frozen? ⟨R,3,none⟩=false∧w.frozen? ⟨R,4,none⟩=false∧w.frozen? ⟨R,5,none⟩=false∧w.frozen? ⟨R,6,none⟩=false∧w.frozen? ⟨R,7,none⟩=false∧w.frozen? ⟨R,8,none⟩=false∧w.frozen? ⟨R,9,none⟩=false∧w.frozen? ⟨R,10,none⟩=false :=
 ⟨Qaa h rfl,Qaa h rfl,Qaa h rfl,Qaa h rfl,Qaa h rfl,Qaa h rfl,Qaa h rfl,Qaa h rfl,Qaa h rfl,Qaa h rfl,Qaa h rfl,Qae h 0,Qae h 1,Qae h 2,Qae h 3,Qae h 4,Qae h 5,Qae h 6,Qae h 7,Qae h 8,Qae h 9,Qae h 10⟩
theorem two_c{a b:Ex}{y z:PEx}(hC:PxC a y)(hD:PxC b z)(w:World)(op:Int)(lo:Nat)(T1 T2:TypeId)(v u:Value)(hn:NodeIs w lo (.iface T1 v) a)(hm:NodeIs w lo (.iface T2 u) b) :
  Calls Tryz.prog 90 #[.int .i64 op,.agg #[.iface T1 v,.iface T2 u]] w (PxP w (.mk op ⟨#[]⟩ pv0 [] [] [y,z])):=by
 have HC:=Hi (And.intro hC hD);clear hC hD;go_enter Tryz.func90,Tryz.ntmps90
 go_wp2_with fail
 have hR:((w.alloc (.cells #[.iface T1 v,.iface T2 u] 258)).alloc (.cells xZero 33)).heap[w.heap.size+1]? =some (.cells xZero 33 (0,0)):=Qah (by simp) _;have HR:=Hi (Qaf hR (.cells #[.iface T1 v,.iface T2 u] 136));clear hR;have HBB:=Hi ((((Qab w (.cells #[.iface T1 v,.iface T2 u] 258)).alloc (by simp) (.cells xZero 33)).alloc (by simp;omega) (.cells #[.iface T1 v,.iface T2 u] 136)));refine(Qh6 HC.out.1 HC.out.2 _ ((w.alloc _).alloc _) op _ lo _ _ _ _ rfl (by simp) (hn.later HBB.out) (hm.later HBB.out)).mono ?_
 rintro e w2⟨B2,ds,hpx,rfl⟩;obtain⟨op',s',kd,nn,vs,vt,pk,nk,ck,pp,np,cp,pl,nl,cl,rfl⟩:=hpx.get;have HPX:=Hi hpx;clear hpx;have HR2:=Hi ((B2.block _ (Qad HR.out)).trans HR.out);have HB2:=Hi (HBB.out.trans (B2.mono HBB.out.size));clear B2;obtain⟨e0,e1,e2,e3,e4,e5,e6,e7,e8,e9,e10,f0,f1,f2,f3,f4,f5,f6,f7,f8,f9,f10⟩:=Qa6 HR2.out
 go_wp2_with fail
 obtain⟨w9,hw9,h9,hE⟩:=Qch HR2.out rfl (.int .i64 op') (.string s') (.int .i64 kd) (.int .i64 nn) (.string vs) (.string vt) (.slice none 0 0) (.slice none 0 0) (.slice pk nk ck) (.slice pp np cp) (.slice pl nl cl);rw[hw9];clear hw9;refine Qbp _ 4 5 (by kernel_rfl) rfl rfl rfl h9 rfl ?_;exact QbV HPX.out HB2.out hE (by simp) (by simp)
def binT:List (Nat×Int):=[(260,4),(262,5),(263,6),(264,7),(265,8),(266,9),(267,10),(268,11),(269,12),(270,14),(271,24),(275,18),(276,19),(277,20),(278,26),(279,27),(280,28)]
theorem bin_c{a b:Ex}{y z:PEx}(hC:PxC a y)(hD:PxC b z)(w:World)(op:Nat)(code:Int)(lo:Nat)(v u:Value)(hn:NodeIs w lo v a)(hm:NodeIs w lo u b)(hop:(op,code)∈binT) :
  Calls Tryz.prog 67 #[.iface op (.agg #[v,u])] w (PxP w (.mk code ⟨#[]⟩ pv0 [] [] [y,z])):=by
 have HC:=Hi (And.intro hC hD);clear hC hD;obtain⟨T1,v,rfl⟩:=hn.iface;obtain⟨T2,u,rfl⟩:=hm.iface;have HBB:Hid (∀o,Below w.heap.size w ((w.alloc (.cells xZero 33)).alloc o)):=Hi fun o=>(Qab w (.cells xZero 33)).alloc (by simp) _
 have HRR:Hid (∀o,((w.alloc (.cells xZero 33)).alloc o).heap[w.heap.size]? =some (.cells xZero 33 (0,0))):=Hi fun o=>Qaf (heap_alloc_new w _) _
 simp only[binT,List.mem_cons,Prod.mk.injEq,List.not_mem_nil,or_false]at hop;rcases hop with⟨rfl,rfl⟩ | ⟨rfl,rfl⟩ | ⟨rfl,rfl⟩ | ⟨rfl,rfl⟩ | ⟨rfl,rfl⟩ | ⟨rfl,rfl⟩ | ⟨rfl,rfl⟩ | ⟨rfl,rfl⟩ | ⟨rfl,rfl⟩ | ⟨rfl,rfl⟩ | ⟨rfl,rfl⟩ | ⟨rfl,rfl⟩ | ⟨rfl,rfl⟩ | ⟨rfl,rfl⟩ | ⟨rfl,rfl⟩ | ⟨rfl,rfl⟩ | ⟨rfl,rfl⟩
 all_goals
  go_enter Tryz.func67,Tryz.ntmps67
  go_wp2_with fail
  refine(two_c HC.out.1 HC.out.2 _ _ lo _ _ _ _ (hn.later (HBB.out _)) (hm.later (HBB.out _))).mono ?_;rintro e w2⟨B2,ds,hpx,rfl⟩;obtain⟨op',s',kd,nn,vs,vt,pk,nk,ck,pp,np,cp,pl,nl,cl,rfl⟩:=hpx.get;have HPX:=Hi hpx;clear hpx;have HR2:=Hi ((B2.block _ (Qad (HRR.out _))).trans (HRR.out _));have HB2:=Hi ((HBB.out _).trans (B2.mono (HBB.out _).size));clear B2;obtain⟨e0,e1,e2,e3,e4,e5,e6,e7,e8,e9,e10,f0,f1,f2,f3,f4,f5,f6,f7,f8,f9,f10⟩:=Qa6 HR2.out
  go_wp2_with fail
  obtain⟨w9,hw9,h9,hE⟩:=Qch HR2.out rfl (.int .i64 op') (.string s') (.int .i64 kd) (.int .i64 nn) (.string vs) (.string vt) (.slice none 0 0) (.slice none 0 0) (.slice pk nk ck) (.slice pp np cp) (.slice pl nl cl);rw[hw9];clear hw9;refine Qbp _ 2 3 (by kernel_rfl) rfl rfl rfl h9 rfl ?_;exact QbV HPX.out HB2.out hE (by simp) (by simp;omega)
def toV:Vl→PV
 | .bool b=>⟨1,if b=true then 1 else 0,⟨#[]⟩,⟨#[]⟩⟩
 | .long n=>⟨2,n,⟨#[]⟩,⟨#[]⟩⟩
 | .str s=>⟨3,0,s,⟨#[]⟩⟩
 | .uid t i=>⟨4,0,i,t⟩
abbrev vCells(kd nn:Int)(s t:ByteArray):Array Value:=#[.int .i64 kd,.int .i64 nn,.string s,.string t,.slice none 0 0,.slice none 0 0]
theorem Qh7{W:World}{fn:Func}{R:Nat}{v0 v1 v2 v3 v4 v5:Value}{ok:Value}{Q:Ending→World→Prop}(a:Act)(s s2:Nat)(hf:fn.results=#[.cell s 30,.tmp s2])(ha:a.tmps.getD s undef=.pointer (some ⟨R,0,none⟩))(he:a.tmps.getD s2 undef=ok)(had:a.defers=[])
  (r:W.heap[R]? =some (.cells #[v0,v1,v2,v3,v4,v5] 30 (0,0)))(h:Q (.returned (.tuple #[.agg #[v0,v1,v2,v3,v4,v5],ok])) W):bodyPost Tryz.prog fn Q Exit.ret a W:=by
 refine bodyPost_ret (QaH (a:=s) (t:=30) hf _ ⟨R,0,none⟩ ha _ _ (QfW _ _ _ _ _ _ _ _ _ (by kernel_rfl) (by kernel_rfl) (Qaa (o:=0) r rfl) (Qaa (o:=1) r rfl) (Qaa (o:=2) r rfl) (Qaa (o:=3) r rfl) (Qaa (o:=4) r rfl) (Qaa (o:=5) r rfl))) had ?_;rw[he];exact h
theorem value_c(v:Vl)(w:World):Calls Tryz.prog 64 #[v.val] w fun e w'=>e=.returned (.tuple #[.agg (vCells (toV v).kind (toV v).n (toV v).s (toV v).t),.bool true])∧Below w.heap.size w w':=by
 cases v with
 | bool b =>
  cases b
  all_goals
   unfold Vl.val;go_enter Tryz.func64,Tryz.ntmps64
   go_wp2_with fail
   exact Qh7 _ 2 3 (by kernel_rfl) rfl rfl rfl (heap_alloc_new w _) ⟨rfl,Qab w _⟩
 | uid t i =>
  unfold Vl.val;go_enter Tryz.func64,Tryz.ntmps64
  go_wp2_with fail
  exact Qh7 _ 2 3 (by kernel_rfl) rfl rfl rfl (Qaf (heap_alloc_new w _) _) ⟨rfl,(Qab w _).alloc (by simp) _⟩
 | _ n =>
  unfold Vl.val;go_enter Tryz.func64,Tryz.ntmps64
  go_wp2_with fail
  exact Qh7 _ 2 3 (by kernel_rfl) rfl rfl rfl (heap_alloc_new w _) ⟨rfl,Qab w _⟩
theorem QaB{P:Program}{c:Code}{Q:Exit→Act→World→Prop}{a:Act}{w:World}(h:∀x,x=w→c.wp P Q a x):c.wp P Q a w:=h w rfl
theorem px_s193{a:Ex}{y:PEx}(hC:PxC a y)(s:ByteArray):PxC (.sop 193 a s) (.mk 13 s pv0 [] [] [y]):=by
 intro w lo v hn;cases hn with
 | sop _ x _ _ hn =>
 have HC:=Hi hC;clear hC;obtain⟨T1,x,rfl⟩:=hn.iface;have HBB:=Hi (((Qab w (.cells xZero 33)).alloc (by simp) (.cells #[.iface T1 x,.string s] 193)).alloc (by simp;omega) (.cells #[.iface T1 x] 136));have HRR:=Hi (Qaf (Qaf (heap_alloc_new w (.cells xZero 33)) (.cells #[.iface T1 x,.string s] 193)) (.cells #[.iface T1 x] 136));go_enter Tryz.func51,Tryz.ntmps51
 go_wp2_with fail
 refine(QcC HC.out _ ((w.alloc _).alloc _) 13 _ lo _ _ _ rfl (by simp) (hn.later HBB.out)).mono ?_;rintro e w2⟨B2,ds,hpx,rfl⟩;obtain⟨op',s',kd,nn,vs',vt,pk,nk,ck,pp,np,cp,pl,nl,cl,rfl⟩:=hpx.get;have HPX:=Hi hpx;clear hpx;have HR2:=Hi ((B2.block _ (Qad HRR.out)).trans HRR.out);have HB2:=Hi (HBB.out.trans (B2.mono HBB.out.size));clear B2;obtain⟨e0,e1,e2,e3,e4,e5,e6,e7,e8,e9,e10,f0,f1,f2,f3,f4,f5,f6,f7,f8,f9,f10⟩:=Qa6 HR2.out
 go_wp2_with fail
 obtain⟨w9,hw9,h9,hE⟩:=Qch HR2.out rfl (.int .i64 op') (.string s') (.int .i64 kd) (.int .i64 nn) (.string vs') (.string vt) (.slice none 0 0) (.slice none 0 0) (.slice pk nk ck) (.slice pp np cp) (.slice pl nl cl);rw[hw9];clear hw9;refine Qbp _ 2 3 (by kernel_rfl) rfl rfl rfl h9 rfl ?_;exact QbV HPX.out HB2.out hE (by simp) (by simp<;>omega)
theorem px_s194{a:Ex}{y:PEx}(hC:PxC a y)(s:ByteArray):PxC (.sop 194 a s) (.mk 23 s pv0 [] [] [y]):=by
 intro w lo v hn;cases hn with
 | sop _ x _ _ hn =>
 have HC:=Hi hC;clear hC;obtain⟨T1,x,rfl⟩:=hn.iface;have HBB:=Hi (((Qab w (.cells xZero 33)).alloc (by simp) (.cells #[.iface T1 x,.string s] 194)).alloc (by simp;omega) (.cells #[.iface T1 x] 136));have HRR:=Hi (Qaf (Qaf (heap_alloc_new w (.cells xZero 33)) (.cells #[.iface T1 x,.string s] 194)) (.cells #[.iface T1 x] 136));go_enter Tryz.func51,Tryz.ntmps51
 go_wp2_with fail
 refine(QcC HC.out _ ((w.alloc _).alloc _) 23 _ lo _ _ _ rfl (by simp) (hn.later HBB.out)).mono ?_;rintro e w2⟨B2,ds,hpx,rfl⟩;obtain⟨op',s',kd,nn,vs',vt,pk,nk,ck,pp,np,cp,pl,nl,cl,rfl⟩:=hpx.get;have HPX:=Hi hpx;clear hpx;have HR2:=Hi ((B2.block _ (Qad HRR.out)).trans HRR.out);have HB2:=Hi (HBB.out.trans (B2.mono HBB.out.size));clear B2;obtain⟨e0,e1,e2,e3,e4,e5,e6,e7,e8,e9,e10,f0,f1,f2,f3,f4,f5,f6,f7,f8,f9,f10⟩:=Qa6 HR2.out
 go_wp2_with fail
 obtain⟨w9,hw9,h9,hE⟩:=Qch HR2.out rfl (.int .i64 op') (.string s') (.int .i64 kd) (.int .i64 nn) (.string vs') (.string vt) (.slice none 0 0) (.slice none 0 0) (.slice pk nk ck) (.slice pp np cp) (.slice pl nl cl);rw[hw9];clear hw9;refine Qbp _ 2 3 (by kernel_rfl) rfl rfl rfl h9 rfl ?_;exact QbV HPX.out HB2.out hE (by simp) (by simp<;>omega)
theorem px_s202{a:Ex}{y:PEx}(hC:PxC a y)(s:ByteArray):PxC (.sop 202 a s) (.mk 16 s pv0 [] [] [y]):=by
 intro w lo v hn;cases hn with
 | sop _ x _ _ hn =>
 have HC:=Hi hC;clear hC;obtain⟨T1,x,rfl⟩:=hn.iface;have HBB:=Hi (((Qab w (.cells xZero 33)).alloc (by simp) (.cells #[.iface T1 x,.string s] 202)).alloc (by simp;omega) (.cells #[.iface T1 x] 136));have HRR:=Hi (Qaf (Qaf (heap_alloc_new w (.cells xZero 33)) (.cells #[.iface T1 x,.string s] 202)) (.cells #[.iface T1 x] 136));go_enter Tryz.func51,Tryz.ntmps51
 go_wp2_with fail
 refine(QcC HC.out _ ((w.alloc _).alloc _) 16 _ lo _ _ _ rfl (by simp) (hn.later HBB.out)).mono ?_;rintro e w2⟨B2,ds,hpx,rfl⟩;obtain⟨op',s',kd,nn,vs',vt,pk,nk,ck,pp,np,cp,pl,nl,cl,rfl⟩:=hpx.get;have HPX:=Hi hpx;clear hpx;have HR2:=Hi ((B2.block _ (Qad HRR.out)).trans HRR.out);have HB2:=Hi (HBB.out.trans (B2.mono HBB.out.size));clear B2;obtain⟨e0,e1,e2,e3,e4,e5,e6,e7,e8,e9,e10,f0,f1,f2,f3,f4,f5,f6,f7,f8,f9,f10⟩:=Qa6 HR2.out
 go_wp2_with fail
 obtain⟨w9,hw9,h9,hE⟩:=Qch HR2.out rfl (.int .i64 op') (.string s') (.int .i64 kd) (.int .i64 nn) (.string vs') (.string vt) (.slice none 0 0) (.slice none 0 0) (.slice pk nk ck) (.slice pp np cp) (.slice pl nl cl);rw[hw9];clear hw9;refine Qbp _ 2 3 (by kernel_rfl) rfl rfl rfl h9 rfl ?_;exact QbV HPX.out HB2.out hE (by simp) (by simp<;>omega)
theorem px_u208{a:Ex}{y:PEx}(hC:PxC a y):PxC (.una 208 a) (.mk 21 ⟨#[]⟩ pv0 [] [] [y]):=by
 intro w lo v hn;cases hn with
 | una _ x _ hn =>
 have HC:=Hi hC;clear hC;obtain⟨T1,x,rfl⟩:=hn.iface;have HBB:=Hi (((Qab w (.cells xZero 33)).alloc (by simp) (.cells #[.iface T1 x] 208)).alloc (by simp;omega) (.cells #[.iface T1 x] 136));have HRR:=Hi (Qaf (Qaf (heap_alloc_new w (.cells xZero 33)) (.cells #[.iface T1 x] 208)) (.cells #[.iface T1 x] 136));go_enter Tryz.func51,Tryz.ntmps51
 go_wp2_with fail
 refine(QcC HC.out _ ((w.alloc _).alloc _) 21 _ lo _ _ _ rfl (by simp) (hn.later HBB.out)).mono ?_;rintro e w2⟨B2,ds,hpx,rfl⟩;obtain⟨op',s',kd,nn,vs',vt,pk,nk,ck,pp,np,cp,pl,nl,cl,rfl⟩:=hpx.get;have HPX:=Hi hpx;clear hpx;have HR2:=Hi ((B2.block _ (Qad HRR.out)).trans HRR.out);have HB2:=Hi (HBB.out.trans (B2.mono HBB.out.size));clear B2;obtain⟨e0,e1,e2,e3,e4,e5,e6,e7,e8,e9,e10,f0,f1,f2,f3,f4,f5,f6,f7,f8,f9,f10⟩:=Qa6 HR2.out
 go_wp2_with fail
 obtain⟨w9,hw9,h9,hE⟩:=Qch HR2.out rfl (.int .i64 op') (.string s') (.int .i64 kd) (.int .i64 nn) (.string vs') (.string vt) (.slice none 0 0) (.slice none 0 0) (.slice pk nk ck) (.slice pp np cp) (.slice pl nl cl);rw[hw9];clear hw9;refine Qbp _ 2 3 (by kernel_rfl) rfl rfl rfl h9 rfl ?_;exact QbV HPX.out HB2.out hE (by simp) (by simp<;>omega)
theorem px_u209{a:Ex}{y:PEx}(hC:PxC a y):PxC (.una 209 a) (.mk 22 ⟨#[]⟩ pv0 [] [] [y]):=by
 intro w lo v hn;cases hn with
 | una _ x _ hn =>
 have HC:=Hi hC;clear hC;obtain⟨T1,x,rfl⟩:=hn.iface;have HBB:=Hi (((Qab w (.cells xZero 33)).alloc (by simp) (.cells #[.iface T1 x] 209)).alloc (by simp;omega) (.cells #[.iface T1 x] 136));have HRR:=Hi (Qaf (Qaf (heap_alloc_new w (.cells xZero 33)) (.cells #[.iface T1 x] 209)) (.cells #[.iface T1 x] 136));go_enter Tryz.func51,Tryz.ntmps51
 go_wp2_with fail
 refine(QcC HC.out _ ((w.alloc _).alloc _) 22 _ lo _ _ _ rfl (by simp) (hn.later HBB.out)).mono ?_;rintro e w2⟨B2,ds,hpx,rfl⟩;obtain⟨op',s',kd,nn,vs',vt,pk,nk,ck,pp,np,cp,pl,nl,cl,rfl⟩:=hpx.get;have HPX:=Hi hpx;clear hpx;have HR2:=Hi ((B2.block _ (Qad HRR.out)).trans HRR.out);have HB2:=Hi (HBB.out.trans (B2.mono HBB.out.size));clear B2;obtain⟨e0,e1,e2,e3,e4,e5,e6,e7,e8,e9,e10,f0,f1,f2,f3,f4,f5,f6,f7,f8,f9,f10⟩:=Qa6 HR2.out
 go_wp2_with fail
 obtain⟨w9,hw9,h9,hE⟩:=Qch HR2.out rfl (.int .i64 op') (.string s') (.int .i64 kd) (.int .i64 nn) (.string vs') (.string vt) (.slice none 0 0) (.slice none 0 0) (.slice pk nk ck) (.slice pp np cp) (.slice pl nl cl);rw[hw9];clear hw9;refine Qbp _ 2 3 (by kernel_rfl) rfl rfl rfl h9 rfl ?_;exact QbV HPX.out HB2.out hE (by simp) (by simp<;>omega)
theorem px_u210{a:Ex}{y:PEx}(hC:PxC a y):PxC (.una 210 a) (.mk 29 ⟨#[]⟩ pv0 [] [] [y]):=by
 intro w lo v hn;cases hn with
 | una _ x _ hn =>
 have HC:=Hi hC;clear hC;obtain⟨T1,x,rfl⟩:=hn.iface;have HBB:=Hi (((Qab w (.cells xZero 33)).alloc (by simp) (.cells #[.iface T1 x] 210)).alloc (by simp;omega) (.cells #[.iface T1 x] 136));have HRR:=Hi (Qaf (Qaf (heap_alloc_new w (.cells xZero 33)) (.cells #[.iface T1 x] 210)) (.cells #[.iface T1 x] 136));go_enter Tryz.func51,Tryz.ntmps51
 go_wp2_with fail
 refine(QcC HC.out _ ((w.alloc _).alloc _) 29 _ lo _ _ _ rfl (by simp) (hn.later HBB.out)).mono ?_;rintro e w2⟨B2,ds,hpx,rfl⟩;obtain⟨op',s',kd,nn,vs',vt,pk,nk,ck,pp,np,cp,pl,nl,cl,rfl⟩:=hpx.get;have HPX:=Hi hpx;clear hpx;have HR2:=Hi ((B2.block _ (Qad HRR.out)).trans HRR.out);have HB2:=Hi (HBB.out.trans (B2.mono HBB.out.size));clear B2;obtain⟨e0,e1,e2,e3,e4,e5,e6,e7,e8,e9,e10,f0,f1,f2,f3,f4,f5,f6,f7,f8,f9,f10⟩:=Qa6 HR2.out
 go_wp2_with fail
 obtain⟨w9,hw9,h9,hE⟩:=Qch HR2.out rfl (.int .i64 op') (.string s') (.int .i64 kd) (.int .i64 nn) (.string vs') (.string vt) (.slice none 0 0) (.slice none 0 0) (.slice pk nk ck) (.slice pp np cp) (.slice pl nl cl);rw[hw9];clear hw9;refine Qbp _ 2 3 (by kernel_rfl) rfl rfl rfl h9 rfl ?_;exact QbV HPX.out HB2.out hE (by simp) (by simp<;>omega)
theorem px_isin{a b:Ex}{y z:PEx}(hC:PxC a y)(hD:PxC b z)(s:ByteArray):PxC (.isIn a s b) (.mk 17 s pv0 [] [] [y,z]):=by
 intro w lo v hn;cases hn with
 | isIn x x2 _ _ _ hn hm =>
 have HC:=Hi (And.intro hC hD);clear hC hD;obtain⟨T1,x,rfl⟩:=hn.iface;obtain⟨T2,x2,rfl⟩:=hm.iface;have HBB:=Hi (((Qab w (.cells xZero 33)).alloc (by simp) (.cells #[.iface T1 x,.string s,.iface T2 x2] 204)).alloc (by simp;omega) (.cells #[.iface T1 x,.iface T2 x2] 136));have HRR:=Hi (Qaf (Qaf (heap_alloc_new w (.cells xZero 33)) (.cells #[.iface T1 x,.string s,.iface T2 x2] 204)) (.cells #[.iface T1 x,.iface T2 x2] 136))
 go_enter Tryz.func51,Tryz.ntmps51
 go_wp2_with fail
 refine(Qh6 HC.out.1 HC.out.2 _ ((w.alloc _).alloc _) 17 _ lo _ _ _ _ rfl (by simp) (hn.later HBB.out) (hm.later HBB.out)).mono ?_;rintro e w2⟨B2,ds,hpx,rfl⟩;obtain⟨op',s',kd,nn,vs',vt,pk,nk,ck,pp,np,cp,pl,nl,cl,rfl⟩:=hpx.get;have HPX:=Hi hpx;clear hpx;have HR2:=Hi ((B2.block _ (Qad HRR.out)).trans HRR.out);have HB2:=Hi (HBB.out.trans (B2.mono HBB.out.size));clear B2;obtain⟨e0,e1,e2,e3,e4,e5,e6,e7,e8,e9,e10,f0,f1,f2,f3,f4,f5,f6,f7,f8,f9,f10⟩:=Qa6 HR2.out
 go_wp2_with fail
 obtain⟨w9,hw9,h9,hE⟩:=Qch HR2.out rfl (.int .i64 op') (.string s') (.int .i64 kd) (.int .i64 nn) (.string vs') (.string vt) (.slice none 0 0) (.slice none 0 0) (.slice pk nk ck) (.slice pp np cp) (.slice pl nl cl);rw[hw9];clear hw9;refine Qbp _ 2 3 (by kernel_rfl) rfl rfl rfl h9 rfl ?_;exact QbV HPX.out HB2.out hE (by simp) (by simp<;>omega)
theorem px_ite{a b c:Ex}{y z u:PEx}(hC:PxC a y)(hD:PxC b z)(hE:PxC c u):PxC (.ite a b c) (.mk 3 ⟨#[]⟩ pv0 [] [] [y,z,u]):=by
 intro w lo v hn;cases hn with
 | ite x x2 x3 _ _ _ hn hm ho =>
 have HC:=Hi (And.intro hC (And.intro hD hE));clear hC hD hE;obtain⟨T1,x,rfl⟩:=hn.iface;obtain⟨T2,x2,rfl⟩:=hm.iface;obtain⟨T3,x3,rfl⟩:=ho.iface;have HBB:=Hi (((Qab w (.cells xZero 33)).alloc (by simp) (.cells #[.iface T1 x,.iface T2 x2,.iface T3 x3] 188)).alloc (by simp;omega) (.cells #[.iface T1 x,.iface T2 x2,.iface T3 x3] 136));have HRR:=Hi (Qaf (Qaf (heap_alloc_new w (.cells xZero 33)) (.cells #[.iface T1 x,.iface T2 x2,.iface T3 x3] 188)) (.cells #[.iface T1 x,.iface T2 x2,.iface T3 x3] 136))
 go_enter Tryz.func51,Tryz.ntmps51
 go_wp2_with fail
 refine(many3_c HC.out.1 HC.out.2.1 HC.out.2.2 _ ((w.alloc _).alloc _) 3 _ lo _ _ _ _ _ rfl (by simp) (hn.later HBB.out) (hm.later HBB.out) (ho.later HBB.out)).mono ?_;rintro e w2⟨B2,ds,hpx,rfl⟩;obtain⟨op',s',kd,nn,vs',vt,pk,nk,ck,pp,np,cp,pl,nl,cl,rfl⟩:=hpx.get;have HPX:=Hi hpx;clear hpx;have HR2:=Hi ((B2.block _ (Qad HRR.out)).trans HRR.out);have HB2:=Hi (HBB.out.trans (B2.mono HBB.out.size));clear B2
 obtain⟨e0,e1,e2,e3,e4,e5,e6,e7,e8,e9,e10,f0,f1,f2,f3,f4,f5,f6,f7,f8,f9,f10⟩:=Qa6 HR2.out
 go_wp2_with fail
 obtain⟨w9,hw9,h9,hE⟩:=Qch HR2.out rfl (.int .i64 op') (.string s') (.int .i64 kd) (.int .i64 nn) (.string vs') (.string vt) (.slice none 0 0) (.slice none 0 0) (.slice pk nk ck) (.slice pp np cp) (.slice pl nl cl);rw[hw9];clear hw9;refine Qbp _ 2 3 (by kernel_rfl) rfl rfl rfl h9 rfl ?_;exact QbV HPX.out HB2.out hE (by simp) (by simp<;>omega)
theorem px_call{l:List Ex}{ys:List PEx}(hlen:ys.length=l.length)(hC:∀(i:Nat)(a:Ex)(y:PEx),l[i]? =some a→ys[i]? =some y→PxC a y)(s:ByteArray)(hm:l.length≤1000000):PxC (.call s l) (.mk 25 s pv0 [] [] ys):=by
 intro w lo v hn;cases hn with
 | call s _ p c vs hr hn =>
 have HC:=Hi (And.intro hlen hC);clear hC hlen;have HBB:=Hi (((Qab w (.cells xZero 33)).alloc (by simp) (.cells #[.string s,.slice p l.length c] 214)));have HRR:=Hi (Qaf (heap_alloc_new w (.cells xZero 33)) (.cells #[.string s,.slice p l.length c] 214));have HRW:=Hi (hr.ext (S:=fun _=>False) (.inl rfl) (Ext.below HBB.out) (fun _ h=>h.elim));have HNN:Hid (∀(i:Nat)(a:Ex),l[i]? =some a→NodeIs _ lo (vs i) a):=Hi (fun i a h=>(hn i a h).later HBB.out)
 clear hr hn;go_enter Tryz.func51,Tryz.ntmps51
 go_wp2_with fail
 refine(Qe6 HC.out.1 HC.out.2 _ 25 _ lo p c vs HRW.out HNN.out hm).mono ?_;rintro e w2⟨B2,ds,hpx,rfl⟩;obtain⟨op',s',kd,nn,vs',vt,pk,nk,ck,pp,np,cp,pl,nl,cl,rfl⟩:=hpx.get;have HPX:=Hi hpx;clear hpx;have HR2:=Hi ((B2.block _ (Qad HRR.out)).trans HRR.out);have HB2:=Hi (HBB.out.trans (B2.mono HBB.out.size));clear B2;obtain⟨e0,e1,e2,e3,e4,e5,e6,e7,e8,e9,e10,f0,f1,f2,f3,f4,f5,f6,f7,f8,f9,f10⟩:=Qa6 HR2.out
 go_wp2_with fail
 obtain⟨w9,hw9,h9,hE⟩:=Qch HR2.out rfl (.int .i64 op') (.string s') (.int .i64 kd) (.int .i64 nn) (.string vs') (.string vt) (.slice none 0 0) (.slice none 0 0) (.slice pk nk ck) (.slice pp np cp) (.slice pl nl cl);rw[hw9];clear hw9;refine Qbp _ 2 3 (by kernel_rfl) rfl rfl rfl h9 rfl ?_;exact QbV HPX.out HB2.out hE (by simp) (by simp<;>omega)
theorem px_set{l:List Ex}{ys:List PEx}(hlen:ys.length=l.length)(hC:∀(i:Nat)(a:Ex)(y:PEx),l[i]? =some a→ys[i]? =some y→PxC a y)(hm:l.length≤1000000):PxC (.set l) (.mk 31 ⟨#[]⟩ pv0 [] [] ys):=by
 intro w lo v hn;cases hn with
 | set _ p c vs hr hn =>
 have HC:=Hi (And.intro hlen hC);clear hC hlen;have HBB:=Hi (((Qab w (.cells xZero 33)).alloc (by simp) (.cells #[.slice p l.length c] 216)));have HRR:=Hi (Qaf (heap_alloc_new w (.cells xZero 33)) (.cells #[.slice p l.length c] 216));have HRW:=Hi (hr.ext (S:=fun _=>False) (.inl rfl) (Ext.below HBB.out) (fun _ h=>h.elim));have HNN:Hid (∀(i:Nat)(a:Ex),l[i]? =some a→NodeIs _ lo (vs i) a):=Hi (fun i a h=>(hn i a h).later HBB.out)
 clear hr hn;go_enter Tryz.func51,Tryz.ntmps51
 go_wp2_with fail
 refine(Qe6 HC.out.1 HC.out.2 _ 31 _ lo p c vs HRW.out HNN.out hm).mono ?_;rintro e w2⟨B2,ds,hpx,rfl⟩;obtain⟨op',s',kd,nn,vs',vt,pk,nk,ck,pp,np,cp,pl,nl,cl,rfl⟩:=hpx.get;have HPX:=Hi hpx;clear hpx;have HR2:=Hi ((B2.block _ (Qad HRR.out)).trans HRR.out);have HB2:=Hi (HBB.out.trans (B2.mono HBB.out.size));clear B2;obtain⟨e0,e1,e2,e3,e4,e5,e6,e7,e8,e9,e10,f0,f1,f2,f3,f4,f5,f6,f7,f8,f9,f10⟩:=Qa6 HR2.out
 go_wp2_with fail
 obtain⟨w9,hw9,h9,hE⟩:=Qch HR2.out rfl (.int .i64 op') (.string s') (.int .i64 kd) (.int .i64 nn) (.string vs') (.string vt) (.slice none 0 0) (.slice none 0 0) (.slice pk nk ck) (.slice pp np cp) (.slice pl nl cl);rw[hw9];clear hw9;refine Qbp _ 2 3 (by kernel_rfl) rfl rfl rfl h9 rfl ?_;exact QbV HPX.out HB2.out hE (by simp) (by simp<;>omega)
theorem px_var(s:ByteArray):PxC (.var s) (.mk 2 s pv0 [] [] []):=by
 intro w lo v hn;cases hn with
 | var =>
 go_enter Tryz.func51,Tryz.ntmps51
 go_wp2_with fail
 refine Qbp _ 2 3 (by kernel_rfl) rfl rfl rfl (Qaf (heap_alloc_new w _) _) rfl ?_;exact⟨(Qab w _).alloc (by simp) _,_,.mk 2 s pv0 [] [] [] none none none 0 0 0 [] .nil .nil .nil (fun i a h=>by simp at h),rfl⟩
theorem px_bin{a b:Ex}{y z:PEx}(hC:PxC a y)(hD:PxC b z)(op:Nat)(code:Int)(hop:(op,code)∈binT):PxC (.bin op a b) (.mk code ⟨#[]⟩ pv0 [] [] [y,z]):=by
 intro w lo v hn;cases hn with
 | bin _ x x2 _ _ hn hm =>
 have HC:=Hi (And.intro hC (And.intro hD hop));clear hC hD;obtain⟨T1,x,rfl⟩:=hn.iface;obtain⟨T2,x2,rfl⟩:=hm.iface;have HBB:=Hi (Qab w (.cells xZero 33));have HRR:=Hi (heap_alloc_new w (.cells xZero 33));have hne:op≠182∧op≠186∧op≠188∧op≠193∧op≠194∧op≠199∧op≠202∧op≠204∧op≠208∧op≠209∧op≠210∧op≠214∧op≠216∧op≠219:=by
  simp only[binT,List.mem_cons,Prod.mk.injEq,List.not_mem_nil,or_false]at hop;omega
 obtain⟨n1,n2,n3,n4,n5,n6,n7,n8,n9,n10,n11,n12,n13,n14⟩:=hne;clear hop;go_enter Tryz.func51,Tryz.ntmps51
 go_wp2_with fail
 refine(bin_c HC.out.1 HC.out.2.1 _ op code lo _ _ (hn.later HBB.out) (hm.later HBB.out) HC.out.2.2).mono ?_;rintro e w2⟨B2,ds,hpx,rfl⟩;obtain⟨op',s',kd,nn,vs',vt,pk,nk,ck,pp,np,cp,pl,nl,cl,rfl⟩:=hpx.get;have HPX:=Hi hpx;clear hpx;have HR2:=Hi ((B2.block _ (Qad HRR.out)).trans HRR.out);have HB2:=Hi (HBB.out.trans (B2.mono HBB.out.size));clear B2;obtain⟨e0,e1,e2,e3,e4,e5,e6,e7,e8,e9,e10,f0,f1,f2,f3,f4,f5,f6,f7,f8,f9,f10⟩:=Qa6 HR2.out
 go_wp2_with fail
 obtain⟨w9,hw9,h9,hE⟩:=Qch HR2.out rfl (.int .i64 op') (.string s') (.int .i64 kd) (.int .i64 nn) (.string vs') (.string vt) (.slice none 0 0) (.slice none 0 0) (.slice pk nk ck) (.slice pp np cp) (.slice pl nl cl);rw[hw9];clear hw9;refine Qbp _ 2 3 (by kernel_rfl) rfl rfl rfl h9 rfl ?_;exact QbV HPX.out HB2.out hE (by simp) (by simp<;>omega)
theorem px_val(v:Vl):PxC (.val v) (.mk 1 ⟨#[]⟩ (toV v) [] [] []):=by
 intro w lo x hn;cases hn with
 | val =>
 have hvi:∃T u,v.val=.iface T u:=by cases v<;>exact⟨_,_,rfl⟩
 have HV:Hid (∀w,Calls Tryz.prog 64 #[v.val] w fun e w'=>e=.returned (.tuple #[.agg (vCells (toV v).kind (toV v).n (toV v).s (toV v).t),.bool true])∧Below w.heap.size w w'):=Hi (value_c v);have HBB:=Hi ((Qab w (.cells xZero 33)).alloc (by simp) (.cells #[v.val] 182));have HRR:=Hi (Qaf (heap_alloc_new w (.cells xZero 33)) (.cells #[v.val] 182));obtain⟨T,u,hvu⟩:=hvi;rw[hvu]at HV HBB HRR ⊢;clear hvu;generalize toV v=pv at *
 obtain⟨kd,nn,vs,vt⟩:=pv;go_enter Tryz.func51,Tryz.ntmps51
 go_wp2_with fail
 refine(HV.out _).mono ?_;rintro e w2⟨rfl,B2⟩;have HR2:=Hi (Qaf ((B2.block _ (Qad HRR.out)).trans HRR.out) (.cells (vCells kd nn vs vt) 30));have HB2:=Hi ((HBB.out.trans (B2.mono HBB.out.size)).alloc (by have:=(HBB.out.trans (B2.mono HBB.out.size)).size;omega) (.cells (vCells kd nn vs vt) 30));clear B2
 go_upto_region 5 with(fail)
 refine QaB fun w3 hw3=>?_
 have HR3:Hid (w3.heap[w.heap.size]? =some (.cells xZero 33 (0,0))):=Hi (by rw[hw3];exact HR2.out);have HB3:Hid (Below w.heap.size w w3):=Hi (by rw[hw3];exact HB2.out);have h3:w3.heap[w2.heap.size]? =some (.cells (vCells kd nn vs vt) 30 (0,0)):=by rw[hw3];exact heap_alloc_new _ _
 clear hw3;have k0:w3.cell? ⟨w2.heap.size,0,none⟩=some (.int .i64 kd):=Qaa h3 rfl;have k1:w3.cell? ⟨w2.heap.size,1,none⟩=some (.int .i64 nn):=Qaa h3 rfl;have k2:w3.cell? ⟨w2.heap.size,2,none⟩=some (.string vs):=Qaa h3 rfl;have k3:w3.cell? ⟨w2.heap.size,3,none⟩=some (.string vt):=Qaa h3 rfl;have k4:w3.cell? ⟨w2.heap.size,4,none⟩=some (.slice none 0 0):=Qaa h3 rfl;have k5:w3.cell? ⟨w2.heap.size,5,none⟩=some (.slice none 0 0):=Qaa h3 rfl
 clear h3;obtain⟨e0,e1,e2,e3,e4,e5,e6,e7,e8,e9,e10,f0,f1,f2,f3,f4,f5,f6,f7,f8,f9,f10⟩:=Qa6 HR3.out
 go_wp2_with fail
 obtain⟨w9,hw9,h9,hE⟩:=Qch HR3.out rfl (.int .i64 1) (.string ⟨#[]⟩) (.int .i64 kd) (.int .i64 nn) (.string vs) (.string vt) (.slice none 0 0) (.slice none 0 0) (.slice none 0 0) (.slice none 0 0) (.slice none 0 0);rw[hw9];clear hw9;refine Qbp _ 2 3 (by kernel_rfl) rfl rfl rfl h9 rfl ?_;exact⟨((Ext.below (S:=fun _=>False) HB3.out).trans' hE (fun d hd=>by omega)).toBelow (fun _ h=>h.elim) (Nat.le_refl _),_,.mk 1 ⟨#[]⟩ ⟨kd,nn,vs,vt⟩ [] [] [] none none none 0 0 0 [] .nil .nil .nil (fun i a h=>by simp at h),rfl⟩
theorem Qcr{P:Program}(w:World)(base:Nat)(t ty e:TypeId)(i:TypeInfo)(z:Value)(size bytes:Nat)(ht:P.underlying t=some (.slice e))(hi:P.info? e=some i)(hz:i.zero=some z)
  (hsize:i.size=size)(hby:i.bytes=bytes)(hzs:z.cells.size=size)(hsz:0<size)(v:Value)(n:Nat)(xs:List Value)(hown:w.ownsRow base e size v n xs)
  (a:Addr)(m c:Nat)(news:List Value)(hl:news.length=m*size)(hnews:∀j u,news[j]? =some u→w.cell? (a.add j)=some u)(h1:∀u∈news,u.oneCell'=true)
  (h63:n+m≤maxLen)(hbytes:(n+m)*bytes≤140737488355328)(hbase:base≤w.heap.size) :
  ∃v' w',(Builtin.append_ #[t,t] ty #[v,.slice (some a) m c]).run P w=.ok v' w'∧w'.ownsRow base e size v' (n+m) (xs++news)∧w.grownBy w' v.ownBlock∧w'.ownsRow base e size v n xs∧(v'.ownBlock=v.ownBlock∨∀k,v'.ownBlock=some k→w.heap.size≤k):=by
 obtain⟨v',w',hr,h2,h3,_,h5⟩:=Qcf (P:=P) w base t ty e i z size bytes ht hi hz hsize hby hzs hsz v n xs hown a m c news hl hnews h1 h63 hbytes hbase;refine⟨v',w',hr,h2,h3,?_,h5⟩;obtain⟨hx1,hx2⟩:=hown;refine⟨hx1,?_⟩;rcases hx2 with⟨rfl,rfl⟩ | ⟨g,cap,cur,rfl,hbg,hg,hnc,hcm,hcs,htake⟩
 ·exact .inl ⟨rfl,rfl⟩
 ·by_cases hroom:n+m≤cap
  ·obtain⟨w2,hr2,k2,_⟩:=run_append_own_spare (P:=P) w base t ty e i size ht hi hsize g n cap xs ⟨hx1,.inr ⟨g,cap,cur,rfl,hbg,hg,hnc,hcm,hcs,htake⟩⟩ a m c news hl hnews h1 hroom
   rw[hr]at hr2;cases hr2;rcases k2.2 with⟨h,_⟩ | ⟨g2,cap2,cur2,hv,b1,b2,b3,b4,b5,b6⟩
   ·cases h
   ·cases hv
    refine .inr ⟨g,cap,cur2,rfl,hbg,b2,hnc,hcm,b5,?_⟩;have h7:=congrArg (List.take (n*size)) b6;rw[List.take_take,Nat.min_eq_left (Nat.mul_le_mul_right _ (Nat.le_add_right _ _)),List.take_left' hx1]at h7;exact h7
  ·subst hsize
   subst hby
   have hown:w.ownsRow base e i.size (.slice (some ⟨g,0,none⟩) n cap) n xs:=⟨hx1,.inr ⟨g,cap,cur,rfl,hbg,hg,hnc,hcm,hcs,htake⟩⟩;have holds:∀j u,xs[j]? =some u→w.cell? ((⟨g,0,none⟩:Addr).add j)=some u:=hown.cells (g:=g) rfl
   have hr2:=run_append_grow (P:=P) w t ty e i z ht hi hz ⟨g,0,none⟩ n cap xs hown.1 holds a m c news hl hnews (by omega) (by simp only[maxLen]at h63;omega) (growslice_fits (by omega) hbytes);rw[hr]at hr2;cases hr2;exact .inr ⟨g,cap,cur,rfl,hbg,Qaf (w:=w.drew) hg _,hnc,hcm,hcs,htake⟩
theorem Qe7{P:Program}{ops:Array Oper}{o:Oper}{a:Act}{w:World}{K:Act→World→Prop}{Q:Exit→Act→World→Prop}{E:Prop}{T Te:TypeId}{z:Value}{sz by':Nat}(hT:SlT P T Te z sz by')
  (hg:o.guard=none)(s xo:Operand)(ho:o.op=.call {callee:=.builtin .append,args:=#[s,xo],argTypes:=#[T,T]})(base:Nat)(v:Value)(n:Nat)(xs:List Value)(hs:a.eval s=v)(hown:w.ownsRow base Te sz v n xs)
  (blk:Nat)(news:List Value)(hl:news.length=1*sz)(hx:a.eval xo=.slice (some ⟨blk,0,none⟩) 1 1)(hc:∀j u,news[j]? =some u→w.cell? ⟨blk,j,none⟩=some u)(h1:∀v∈news,v.oneCell'=true)(hm:n+1≤maxLen)(hn:(n+1)*by'≤140737488355328)(hbase:base≤w.heap.size)
  (hK:∀v' w',w'.ownsRow base Te sz v' (n+1) (xs++news)→w.grownBy w' v.ownBlock→w'.ownsRow base Te sz v n xs→(v'.ownBlock=v.ownBlock∨∀k,v'.ownBlock=some k→w.heap.size≤k)→K (a.put o.dst v') w') :
  if Region.wanted o (yielded ops a.tmps)=true then Oper.wp P o a w K Q else E:=by
 obtain⟨i0,hi,hz0,hz1,hz2⟩:=hT.i;have hw:Region.wanted o (yielded ops a.tmps)=true:=by simp[Region.wanted,hg]
 rw[if_pos hw];obtain⟨v',w',hrun,r1,r2,r3,r4⟩:=Qcr (P:=P) w base T o.type Te i0 z sz by' hT.hu hi hz0 hz1 hz2 hT.zs hT.pos v n xs hown ⟨blk,0,none⟩ 1 1 news hl (fun j u hj=>by
  have:=hc j u hj;by_cases h0:j=0
  ·subst h0;simpa [Addr.add]using this
  ·simpa [Addr.add,h0]using this) h1 hm hn hbase
 unfold Oper.wp;simp[execOp,ho,resolve,invoke,builtin,hs,hx,hrun,Result.andThen];exact hK v' w' r1 r2 r3 r4
theorem Qbs{w:World}{B:Nat}{e:TypeId}{sz:Nat}{v:Value}{n:Nat}{xs:List Value}(h:w.ownsRow B e sz v n xs)(o:Obj):(w.alloc o).ownsRow B e sz v n xs:=Qaj (S:=fun _=>False) h (.below (Qab w o)) (fun _ k=>k.elim)
theorem QbD{w w':World}{B B':Nat}{e e':TypeId}{sz sz':Nat}{v v':Value}{n n':Nat}{xs xs':List Value}(h:w.ownsRow B e sz v n xs)(h':w.ownsRow B' e' sz' v' n' xs')(hg:w.grownBy w' v'.ownBlock)(hne:e≠e'):w'.ownsRow B e sz v n xs:=by
 obtain⟨h1,h2⟩:=h;refine⟨h1,?_⟩;rcases h2 with h2 | ⟨g,cap,cur,a,b,c,d⟩
 ·exact .inl h2
 ·exact .inr ⟨g,cap,cur,a,b,QaR c h' hg hne,d⟩
end Go.Proofs.Pg
