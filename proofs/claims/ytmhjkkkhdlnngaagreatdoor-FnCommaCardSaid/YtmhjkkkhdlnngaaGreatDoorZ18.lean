/- FnComma: a last comma changes nothing; for every world. Part 18. -/
import Derived.Test.YtmhjkkkhdlnngaaGreatDoorZ17
set_option linter.all false
set_option maxRecDepth 100000
set_option maxHeartbeats 40000000
namespace Go.Proofs.Pg
open Go.RowKit
attribute [local go_sem] Oper.semAt_some
def ents:List (ByteArray×Int×Bool)→Nat→List MapEntry
 | [],_=>[]
 | (k,n,m)::l,i=>{key:=.string k,val:=.agg #[.int .i64 n,.bool m],born:=i}::ents l (i+1)
def extL:List (ByteArray×Int×Bool):=[(⟨#[105,112]⟩,1,false),(⟨#[100,101,99,105,109,97,108]⟩,1,false),(⟨#[100,97,116,101,116,105,109,101]⟩,1,false),(⟨#[100,117,114,97,116,105,111,110]⟩,1,false),(⟨#[108,101,115,115,84,104,97,110]⟩,2,true),(⟨#[108,101,115,115,84,104,97,110,79,114,69,113,117,97,108]⟩,2,true),(⟨#[103,114,101,97,116,101,114,84,104,97,110]⟩,2,true),(⟨#[103,114,101,97,116,101,114,84,104,97,110,79,114,69,113,117,97,108]⟩,2,true),(⟨#[105,115,73,112,118,52]⟩,1,true),(⟨#[105,115,73,112,118,54]⟩,1,true),(⟨#[105,115,76,111,111,112,98,97,99,107]⟩,1,true),(⟨#[105,115,77,117,108,116,105,99,97,115,116]⟩,1,true),(⟨#[105,115,73,110,82,97,110,103,101]⟩,2,true),(⟨#[116,111,68,97,116,101]⟩,1,true),(⟨#[116,111,84,105,109,101]⟩,1,true),(⟨#[111,102,102,115,101,116]⟩,2,true),(⟨#[100,117,114,97,116,105,111,110,83,105,110,99,101]⟩,2,true),(⟨#[116,111,68,97,121,115]⟩,1,true),(⟨#[116,111,72,111,117,114,115]⟩,1,true),(⟨#[116,111,77,105,110,117,116,101,115]⟩,1,true),(⟨#[116,111,83,101,99,111,110,100,115]⟩,1,true),(⟨#[116,111,77,105,108,108,105,115,101,99,111,110,100,115]⟩,1,true)]
def extE(i:Nat):Array MapEntry:=(ents (extL.take i) 0).toArray
def extM(s:ByteArray):Option (Int×Bool):=(extL.find? fun p=>s.toList==p.1.toList).map (·.2)
theorem mkey{P:Program}{t:TypeId}(hu:P.underlying t=some .string)(em:Bool)(v:Value)(w:World):(Instr.checkKey em 10000 t v).run P w=.ok () w:=by
 show(Instr.checkKey em (9999+1) t v).run P w=.ok () w;unfold Instr.checkKey;simp only[Sem.run_bind,run_underlying hu,Result.andThen_ok];rfl
theorem QgD(w:World)(x y:Obj):{w.alloc x with heap:=(w.alloc x).heap.setIfInBounds w.heap.size y}=w.alloc y:=by
 have h:(w.heap.push x).setIfInBounds w.heap.size y=w.heap.push y:=by
  apply Array.toList_inj.1;simp[List.set_append_right]
 show({w with heap:=(w.heap.push x).setIfInBounds w.heap.size y}:World)={w with heap:=w.heap.push y};rw[h]
theorem QaP{w:World}{es:Array MapEntry}{clock:Nat}{k:ByteArray}{v:Value}(hf:Instr.findNow .string (.string k) es.toList 0=some none) :
  (Instr.mapUpdate 422 (.map (some w.heap.size)) (.string k) v).run Tryz.prog (w.alloc (.map es clock))=.ok () (w.alloc (.map (es.push {key:=.string k,val:=v,born:=clock}) (clock+1))):=by
 have ht:Tryz.prog.underlying 422=some (.map 211 420):=by kernel_rfl
 have hkt:Tryz.prog.underlying 211=some .string:=by kernel_rfl
 have hb:(w.alloc (.map es clock)).heap[w.heap.size]? =some (.map es clock):=heap_alloc_new _ _;simp only[Instr.mapUpdate,Instr.findKey,Sem.run_bind,run_underlying ht,run_underlying hkt,Result.andThen_ok,getObj,Sem.run,hb,mkey hkt,hf,Sem.run_pure,setObj];exact congrArg (Result.ok ()) (QgD w (.map es clock) _)
theorem ext_ins0(w:World):(Instr.mapUpdate 422 (.map (some w.heap.size)) (.string ⟨#[105,112]⟩) (.agg #[.int .i64 1,.bool false])).run Tryz.prog (w.alloc (.map (extE 0) 0))=.ok () (w.alloc (.map (extE 1) 1)):=by
 have e:(extE 0).push {key:=.string ⟨#[105,112]⟩,val:=(.agg #[.int .i64 1,.bool false]),born:=0}=extE 1:=by kernel_rfl
 rw[←e];exact QaP (by kernel_rfl)
theorem ext_ins1(w:World):(Instr.mapUpdate 422 (.map (some w.heap.size)) (.string ⟨#[100,101,99,105,109,97,108]⟩) (.agg #[.int .i64 1,.bool false])).run Tryz.prog (w.alloc (.map (extE 1) 1))=.ok () (w.alloc (.map (extE 2) 2)):=by
 have e:(extE 1).push {key:=.string ⟨#[100,101,99,105,109,97,108]⟩,val:=(.agg #[.int .i64 1,.bool false]),born:=1}=extE 2:=by kernel_rfl
 rw[←e];exact QaP (by kernel_rfl)
theorem ext_ins2(w:World):(Instr.mapUpdate 422 (.map (some w.heap.size)) (.string ⟨#[100,97,116,101,116,105,109,101]⟩) (.agg #[.int .i64 1,.bool false])).run Tryz.prog (w.alloc (.map (extE 2) 2))=.ok () (w.alloc (.map (extE 3) 3)):=by
 have e:(extE 2).push {key:=.string ⟨#[100,97,116,101,116,105,109,101]⟩,val:=(.agg #[.int .i64 1,.bool false]),born:=2}=extE 3:=by kernel_rfl
 rw[←e];exact QaP (by kernel_rfl)
theorem ext_ins3(w:World):(Instr.mapUpdate 422 (.map (some w.heap.size)) (.string ⟨#[100,117,114,97,116,105,111,110]⟩) (.agg #[.int .i64 1,.bool false])).run Tryz.prog (w.alloc (.map (extE 3) 3))=.ok () (w.alloc (.map (extE 4) 4)):=by
 have e:(extE 3).push {key:=.string ⟨#[100,117,114,97,116,105,111,110]⟩,val:=(.agg #[.int .i64 1,.bool false]),born:=3}=extE 4:=by kernel_rfl
 rw[←e];exact QaP (by kernel_rfl)
theorem ext_ins4(w:World):(Instr.mapUpdate 422 (.map (some w.heap.size)) (.string ⟨#[108,101,115,115,84,104,97,110]⟩) (.agg #[.int .i64 2,.bool true])).run Tryz.prog (w.alloc (.map (extE 4) 4))=.ok () (w.alloc (.map (extE 5) 5)):=by
 have e:(extE 4).push {key:=.string ⟨#[108,101,115,115,84,104,97,110]⟩,val:=(.agg #[.int .i64 2,.bool true]),born:=4}=extE 5:=by kernel_rfl
 rw[←e];exact QaP (by kernel_rfl)
theorem ext_ins5(w:World):(Instr.mapUpdate 422 (.map (some w.heap.size)) (.string ⟨#[108,101,115,115,84,104,97,110,79,114,69,113,117,97,108]⟩) (.agg #[.int .i64 2,.bool true])).run Tryz.prog (w.alloc (.map (extE 5) 5))=.ok () (w.alloc (.map (extE 6) 6)):=by
 have e:(extE 5).push {key:=.string ⟨#[108,101,115,115,84,104,97,110,79,114,69,113,117,97,108]⟩,val:=(.agg #[.int .i64 2,.bool true]),born:=5}=extE 6:=by kernel_rfl
 rw[←e];exact QaP (by kernel_rfl)
theorem ext_ins6(w:World):(Instr.mapUpdate 422 (.map (some w.heap.size)) (.string ⟨#[103,114,101,97,116,101,114,84,104,97,110]⟩) (.agg #[.int .i64 2,.bool true])).run Tryz.prog (w.alloc (.map (extE 6) 6))=.ok () (w.alloc (.map (extE 7) 7)):=by
 have e:(extE 6).push {key:=.string ⟨#[103,114,101,97,116,101,114,84,104,97,110]⟩,val:=(.agg #[.int .i64 2,.bool true]),born:=6}=extE 7:=by kernel_rfl
 rw[←e];exact QaP (by kernel_rfl)
theorem ext_ins7(w:World):(Instr.mapUpdate 422 (.map (some w.heap.size)) (.string ⟨#[103,114,101,97,116,101,114,84,104,97,110,79,114,69,113,117,97,108]⟩) (.agg #[.int .i64 2,.bool true])).run Tryz.prog (w.alloc (.map (extE 7) 7))=.ok () (w.alloc (.map (extE 8) 8)):=by
 have e:(extE 7).push {key:=.string ⟨#[103,114,101,97,116,101,114,84,104,97,110,79,114,69,113,117,97,108]⟩,val:=(.agg #[.int .i64 2,.bool true]),born:=7}=extE 8:=by kernel_rfl
 rw[←e];exact QaP (by kernel_rfl)
theorem ext_ins8(w:World):(Instr.mapUpdate 422 (.map (some w.heap.size)) (.string ⟨#[105,115,73,112,118,52]⟩) (.agg #[.int .i64 1,.bool true])).run Tryz.prog (w.alloc (.map (extE 8) 8))=.ok () (w.alloc (.map (extE 9) 9)):=by
 have e:(extE 8).push {key:=.string ⟨#[105,115,73,112,118,52]⟩,val:=(.agg #[.int .i64 1,.bool true]),born:=8}=extE 9:=by kernel_rfl
 rw[←e];exact QaP (by kernel_rfl)
theorem ext_ins9(w:World):(Instr.mapUpdate 422 (.map (some w.heap.size)) (.string ⟨#[105,115,73,112,118,54]⟩) (.agg #[.int .i64 1,.bool true])).run Tryz.prog (w.alloc (.map (extE 9) 9))=.ok () (w.alloc (.map (extE 10) 10)):=by
 have e:(extE 9).push {key:=.string ⟨#[105,115,73,112,118,54]⟩,val:=(.agg #[.int .i64 1,.bool true]),born:=9}=extE 10:=by kernel_rfl
 rw[←e];exact QaP (by kernel_rfl)
theorem QgE(w:World):(Instr.mapUpdate 422 (.map (some w.heap.size)) (.string ⟨#[105,115,76,111,111,112,98,97,99,107]⟩) (.agg #[.int .i64 1,.bool true])).run Tryz.prog (w.alloc (.map (extE 10) 10))=.ok () (w.alloc (.map (extE 11) 11)):=by
 have e:(extE 10).push {key:=.string ⟨#[105,115,76,111,111,112,98,97,99,107]⟩,val:=(.agg #[.int .i64 1,.bool true]),born:=10}=extE 11:=by kernel_rfl
 rw[←e];exact QaP (by kernel_rfl)
theorem QgF(w:World):(Instr.mapUpdate 422 (.map (some w.heap.size)) (.string ⟨#[105,115,77,117,108,116,105,99,97,115,116]⟩) (.agg #[.int .i64 1,.bool true])).run Tryz.prog (w.alloc (.map (extE 11) 11))=.ok () (w.alloc (.map (extE 12) 12)):=by
 have e:(extE 11).push {key:=.string ⟨#[105,115,77,117,108,116,105,99,97,115,116]⟩,val:=(.agg #[.int .i64 1,.bool true]),born:=11}=extE 12:=by kernel_rfl
 rw[←e];exact QaP (by kernel_rfl)
theorem QgG(w:World):(Instr.mapUpdate 422 (.map (some w.heap.size)) (.string ⟨#[105,115,73,110,82,97,110,103,101]⟩) (.agg #[.int .i64 2,.bool true])).run Tryz.prog (w.alloc (.map (extE 12) 12))=.ok () (w.alloc (.map (extE 13) 13)):=by
 have e:(extE 12).push {key:=.string ⟨#[105,115,73,110,82,97,110,103,101]⟩,val:=(.agg #[.int .i64 2,.bool true]),born:=12}=extE 13:=by kernel_rfl
 rw[←e];exact QaP (by kernel_rfl)
theorem QgH(w:World):(Instr.mapUpdate 422 (.map (some w.heap.size)) (.string ⟨#[116,111,68,97,116,101]⟩) (.agg #[.int .i64 1,.bool true])).run Tryz.prog (w.alloc (.map (extE 13) 13))=.ok () (w.alloc (.map (extE 14) 14)):=by
 have e:(extE 13).push {key:=.string ⟨#[116,111,68,97,116,101]⟩,val:=(.agg #[.int .i64 1,.bool true]),born:=13}=extE 14:=by kernel_rfl
 rw[←e];exact QaP (by kernel_rfl)
theorem QgI(w:World):(Instr.mapUpdate 422 (.map (some w.heap.size)) (.string ⟨#[116,111,84,105,109,101]⟩) (.agg #[.int .i64 1,.bool true])).run Tryz.prog (w.alloc (.map (extE 14) 14))=.ok () (w.alloc (.map (extE 15) 15)):=by
 have e:(extE 14).push {key:=.string ⟨#[116,111,84,105,109,101]⟩,val:=(.agg #[.int .i64 1,.bool true]),born:=14}=extE 15:=by kernel_rfl
 rw[←e];exact QaP (by kernel_rfl)
theorem QgJ(w:World):(Instr.mapUpdate 422 (.map (some w.heap.size)) (.string ⟨#[111,102,102,115,101,116]⟩) (.agg #[.int .i64 2,.bool true])).run Tryz.prog (w.alloc (.map (extE 15) 15))=.ok () (w.alloc (.map (extE 16) 16)):=by
 have e:(extE 15).push {key:=.string ⟨#[111,102,102,115,101,116]⟩,val:=(.agg #[.int .i64 2,.bool true]),born:=15}=extE 16:=by kernel_rfl
 rw[←e];exact QaP (by kernel_rfl)
theorem QgK(w:World):(Instr.mapUpdate 422 (.map (some w.heap.size)) (.string ⟨#[100,117,114,97,116,105,111,110,83,105,110,99,101]⟩) (.agg #[.int .i64 2,.bool true])).run Tryz.prog (w.alloc (.map (extE 16) 16))=.ok () (w.alloc (.map (extE 17) 17)):=by
 have e:(extE 16).push {key:=.string ⟨#[100,117,114,97,116,105,111,110,83,105,110,99,101]⟩,val:=(.agg #[.int .i64 2,.bool true]),born:=16}=extE 17:=by kernel_rfl
 rw[←e];exact QaP (by kernel_rfl)
theorem QgL(w:World):(Instr.mapUpdate 422 (.map (some w.heap.size)) (.string ⟨#[116,111,68,97,121,115]⟩) (.agg #[.int .i64 1,.bool true])).run Tryz.prog (w.alloc (.map (extE 17) 17))=.ok () (w.alloc (.map (extE 18) 18)):=by
 have e:(extE 17).push {key:=.string ⟨#[116,111,68,97,121,115]⟩,val:=(.agg #[.int .i64 1,.bool true]),born:=17}=extE 18:=by kernel_rfl
 rw[←e];exact QaP (by kernel_rfl)
theorem QgM(w:World):(Instr.mapUpdate 422 (.map (some w.heap.size)) (.string ⟨#[116,111,72,111,117,114,115]⟩) (.agg #[.int .i64 1,.bool true])).run Tryz.prog (w.alloc (.map (extE 18) 18))=.ok () (w.alloc (.map (extE 19) 19)):=by
 have e:(extE 18).push {key:=.string ⟨#[116,111,72,111,117,114,115]⟩,val:=(.agg #[.int .i64 1,.bool true]),born:=18}=extE 19:=by kernel_rfl
 rw[←e];exact QaP (by kernel_rfl)
theorem QgN(w:World):(Instr.mapUpdate 422 (.map (some w.heap.size)) (.string ⟨#[116,111,77,105,110,117,116,101,115]⟩) (.agg #[.int .i64 1,.bool true])).run Tryz.prog (w.alloc (.map (extE 19) 19))=.ok () (w.alloc (.map (extE 20) 20)):=by
 have e:(extE 19).push {key:=.string ⟨#[116,111,77,105,110,117,116,101,115]⟩,val:=(.agg #[.int .i64 1,.bool true]),born:=19}=extE 20:=by kernel_rfl
 rw[←e];exact QaP (by kernel_rfl)
theorem QgO(w:World):(Instr.mapUpdate 422 (.map (some w.heap.size)) (.string ⟨#[116,111,83,101,99,111,110,100,115]⟩) (.agg #[.int .i64 1,.bool true])).run Tryz.prog (w.alloc (.map (extE 20) 20))=.ok () (w.alloc (.map (extE 21) 21)):=by
 have e:(extE 20).push {key:=.string ⟨#[116,111,83,101,99,111,110,100,115]⟩,val:=(.agg #[.int .i64 1,.bool true]),born:=20}=extE 21:=by kernel_rfl
 rw[←e];exact QaP (by kernel_rfl)
theorem QgP(w:World):(Instr.mapUpdate 422 (.map (some w.heap.size)) (.string ⟨#[116,111,77,105,108,108,105,115,101,99,111,110,100,115]⟩) (.agg #[.int .i64 1,.bool true])).run Tryz.prog (w.alloc (.map (extE 21) 21))=.ok () (w.alloc (.map (extE 22) 22)):=by
 have e:(extE 21).push {key:=.string ⟨#[116,111,77,105,108,108,105,115,101,99,111,110,100,115]⟩,val:=(.agg #[.int .i64 1,.bool true]),born:=21}=extE 22:=by kernel_rfl
 rw[←e];exact QaP (by kernel_rfl)
theorem Qfw(w:World):Calls Tryz.prog 289 #[] w fun e w'=>e=.returned (.map (some w.heap.size))∧w'=w.alloc (.map (extE 22) 22):=by
 have hm:∀w:World,(Instr.makeMap 422 none).run Tryz.prog w=.ok (.map (some w.heap.size)) (w.alloc (.map (extE 0) 0)):=fun w=>by kernel_rfl
 have h0:=ext_ins0 w;have h1:=ext_ins1 w;have h2:=ext_ins2 w;have h3:=ext_ins3 w;have h4:=ext_ins4 w;have h5:=ext_ins5 w;have h6:=ext_ins6 w;have h7:=ext_ins7 w;have h8:=ext_ins8 w;have h9:=ext_ins9 w;have h10:=QgE w;have h11:=QgF w;have h12:=QgG w;have h13:=QgH w;have h14:=QgI w;have h15:=QgJ w;have h16:=QgK w;have h17:=QgL w;have h18:=QgM w;have h19:=QgN w;have h20:=QgO w;have h21:=QgP w;go_enter Tryz.func289,Tryz.ntmps289
 go_wp2;go_ret;exact⟨rfl,rfl⟩
theorem Qcb(s k:ByteArray):Instr.sameNow .string (.string s) (.string k)=some (s.toList==k.toList):=by
 show some (s==k)=_;rw[beq_toListBytes]
theorem Qeu(s:ByteArray):∀(l:List (ByteArray×Int×Bool))(i j:Nat),match l.find? (fun p=>s.toList==p.1.toList)with
  | some p=>∃j',Instr.findNow .string (.string s) (ents l i) j=some (some (j',.agg #[.int .i64 p.2.1,.bool p.2.2]))
  | none=>Instr.findNow .string (.string s) (ents l i) j=some none
 | [],i,j=>rfl
 | (k,n,m)::l,i,j=>by
  have ih:=Qeu s l (i+1) (j+1);rw[List.find?_cons];cases h:(s.toList==k.toList)with
  | true=>exact⟨j,by simp[ents,Instr.findNow,Qcb,h]⟩
  | false=>simpa [ents,Instr.findNow,Qcb,h]using ih
def extV(s:ByteArray):Value:=match extM s with
 | some p=>.tuple #[.agg #[.int .i64 p.1,.bool p.2],.bool true]
 | none=>.tuple #[.agg #[.int .i64 0,.bool false],.bool false]
theorem Qfx{w:World}{b:Nat}(hb:w.heap[b]? =some (.map (extE 22) 22))(s:ByteArray):(Instr.lookup 422 (.map (some b)) (.string s) true).run Tryz.prog w=.ok (extV s) w:=by
 have ht:Tryz.prog.underlying 422=some (.map 211 420):=by kernel_rfl
 have hkt:Tryz.prog.underlying 211=some .string:=by kernel_rfl
 have hz:(zeroValue 420).run Tryz.prog w=.ok (.agg #[.int .i64 0,.bool false]) w:=by kernel_rfl
 have he:(extE 22).toList=ents extL 0:=by kernel_rfl
 have hf:=Qeu s extL 0 0;unfold extV extM;cases h:extL.find? (fun p=>s.toList==p.1.toList)with
 | some p =>
  rw[h]at hf;obtain⟨j,hf⟩:=hf;rw[←he]at hf;simp only[Instr.lookup,Instr.findKey,Sem.run_bind,run_underlying ht,run_underlying hkt,Result.andThen_ok,getObj,Sem.run,hb,mkey hkt,hf,Sem.run_pure,if_true,Option.map_some]
 | none =>
  rw[h]at hf;replace hf:Instr.findNow .string (.string s) (ents extL 0) 0=some none:=hf;rw[←he]at hf;simp only[Instr.lookup,Instr.findKey,Sem.run_bind,run_underlying ht,run_underlying hkt,Result.andThen_ok,getObj,Sem.run,hb,mkey hkt,hf,Sem.run_pure,hz,if_true,Option.map_none]
end Go.Proofs.Pg
