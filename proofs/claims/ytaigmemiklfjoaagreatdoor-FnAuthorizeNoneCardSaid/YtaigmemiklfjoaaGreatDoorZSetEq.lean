/- Part of the proof of FnAuthorizeNone: without policies no request is allowed; for every world that comes in. -/
import Derived.Test.YtaigmemiklfjoaaGreatDoorZCont
import Derived.Maps.RangeWalk
set_option linter.unusedSimpArgs false
set_option linter.unusedVariables false
set_option linter.unnecessarySimpa false
namespace Go.Proofs.Exp
open Go.RowKit
set_option linter.unusedVariables false
set_option maxRecDepth 10000 in
set_option maxHeartbeats 800000 in
theorem contains_nil (v : Value) (hash : ∀ w1, Inv Tryz.prog HK v [] w1 (HashR w1)) (h : Int) (w : World) :
    Calls Tryz.prog 303 #[.agg #[.map none, .int .u64 h], v] w (EqPost w) := by
  go_enter Tryz.func303, Tryz.ntmps303
  go_wp2_with ((with_reducible show wpList _ _ _ ({ dst := _, op := Op.call { callee := Callee.invoke _ _, args := _, argTypes := _ }, type := _, pos := _, after := _, guard := _ } :: _) _ _); refine wpList_inv rfl _ HK _ _ rfl v rfl [] rfl _ (hash _) ?_)
  rintro y w1 ⟨x, rfl, hb1⟩
  have q0 : w1.cell? ⟨w.heap.size, 0, none⟩ = some (.map none) := cell_below hb1 (by simp) (by go_simp)
  have q1 : w1.cell? ⟨w.heap.size, 1, none⟩ = some (.int .u64 h) := cell_below hb1 (by simp) (by go_simp)
  have hW : Below w.heap.size w w1 := (below_refl_alloc w _).trans (hb1.mono (by simp))
  clear hb1
  go_wp2
  go_loopw [5] (fun _ wr => wr = w1 ∧ True) (fun _ _ => 0)
  case atStart => exact ⟨rfl, trivial⟩
  case round =>
    obtain ⟨rfl, _⟩ := hrel
    go_wp2_with (at_lookup; refine wpList_look_nil rfl 178 _ _ true rfl 50 44 (.int .u64) u178T u50T (.inr ⟨_, rfl⟩) .nilIface z44 rfl ?_)
    go_ret
    exact ⟨_, rfl, hW⟩

/-- How many entries a map has. -/
def MapLen (w : World) (m : Option Nat) (n : Nat) : Prop := (m = none ∧ n = 0) ∨ ∃ b es clock, m = some b ∧ w.heap[b]? = some (.map es clock) ∧ n = es.size
theorem wpList_lenm {P : Program} {ops : Array Oper} {rest : List Oper} {o : Oper} {a : Act} {w : World} {Q : Exit → Act → World → Prop}
    (hgd : o.guard = none) (x : Operand) (t : TypeId) (ho : o.op = .call { callee := .builtin .len, args := #[x], argTypes := #[t] })
    (kt et : TypeId) (ht : P.underlying t = some (.map kt et))
    (m : Option Nat) (hx : a.eval x = .map m) (n : Nat) (hl : MapLen w m n)
    (h : wpList P ops Q rest (a.put o.dst (.int .i64 n)) w) : wpList P ops Q (o :: rest) a w := by
  refine wpList_plain hgd fun K' hK' => ?_
  unfold Oper.wp
  have hr : (Builtin.len_ #[t] o.type #[.map m]).run P w = .ok (.int .i64 n) w := by
    rcases hl with ⟨rfl, rfl⟩ | ⟨b, es, clock, rfl, hb, rfl⟩
    · simp [Builtin.len_, goInt, run_underlying ht]
    · simp [Builtin.len_, Sem.run_bind, getObj, Sem.run, hb, Result.andThen_ok, Sem.run_pure, goInt, run_underlying ht]
  simp only [execOp, ho, resolve, invoke, builtin, Sem.run_bind, Sem.run_pure, Result.andThen_ok, List.map_toArray, List.map_cons, List.map_nil, hx, hr, Oper.upon]
  exact hK' _ _ h

theorem ta_set (v : Value) (w : World) : (Instr.typeAssert (.iface 180 v) 44 180 true).run Tryz.prog w = .ok (.tuple #[v, .bool true]) w := by kernel_rfl
theorem tn_set (t : TypeId) (v : Value) (ht : ¬ t = 180) (w : World) : (Instr.typeAssert (.iface t v) 44 180 true).run Tryz.prog w = .ok (.tuple #[.agg #[.map none, .int .u64 0], .bool false]) w :=
  ta_no (d := (Tryz.prog.underlying 180).getD .invalid) (by kernel_rfl) (by rintro ⟨ms, h⟩; have h2 : (match (Tryz.prog.underlying 180).getD .invalid with | .interface _ => true | _ => false) = false := (by kernel_rfl); rw [h] at h2; cases h2) (fun w => by kernel_rfl) 44 t v ht w
theorem ta_rec (v : Value) (w : World) : (Instr.typeAssert (.iface 52 v) 44 52 true).run Tryz.prog w = .ok (.tuple #[v, .bool true]) w := by kernel_rfl
theorem tn_rec (t : TypeId) (v : Value) (ht : ¬ t = 52) (w : World) : (Instr.typeAssert (.iface t v) 44 52 true).run Tryz.prog w = .ok (.tuple #[.agg #[.map none, .int .u64 0], .bool false]) w :=
  ta_no (d := (Tryz.prog.underlying 52).getD .invalid) (by kernel_rfl) (by rintro ⟨ms, h⟩; have h2 : (match (Tryz.prog.underlying 52).getD .invalid with | .interface _ => true | _ => false) = false := (by kernel_rfl); rw [h] at h2; cases h2) (fun w => by kernel_rfl) 44 t v ht w

set_option maxRecDepth 20000 in
set_option maxHeartbeats 800000 in
theorem seteq_no (m : Option Nat) (h : Int) (t : TypeId) (v : Value) (ht : ¬ t = 180) (w : World) :
    Calls Tryz.prog 304 #[.agg #[.map m, .int .u64 h], .iface t v] w (EqPost w) := by
  have hta := tn_set t v ht
  go_enter Tryz.func304, Tryz.ntmps304
  go_wp2
  go_ret
  exact ⟨_, rfl, (below_refl_alloc w _).alloc (by simp) _⟩

def KU (v : Value) : Prop := ∃ k : Int, v = .int .u64 k
def KS (v : Value) : Prop := ∃ k : ByteArray, v = .string k ∧ k.size ≤ 140737488351232
/-- The map of a set, or of a record: none, or a block that is there. -/
def SetM (w : World) (B : Nat) (K V : Value → Prop) (m : Option Nat) : Prop := m = none ∨ ∃ b, m = some b ∧ b < B ∧ MapHas w b K V 140737488351232
theorem SetM.kept {w w' : World} {B B' : Nat} {K V V' : Value → Prop} {m : Option Nat} (h : SetM w B K V m) (hb : Below B w w') (hB : B ≤ B') (hV : ∀ v, V v → V' v) : SetM w' B' K V' m := by
  rcases h with rfl | ⟨b, rfl, h1, h2⟩
  · exact .inl rfl
  · exact .inr ⟨b, rfl, by omega, (h2.below hb h1).weaken (Nat.le_refl _) (fun _ h => h) hV⟩
theorem SetM.len {w : World} {B : Nat} {K V : Value → Prop} {m : Option Nat} (h : SetM w B K V m) : ∃ n, n ≤ 140737488351232 ∧ ∀ w', Below B w w' → MapLen w' m n := by
  rcases h with rfl | ⟨b, rfl, h1, es, clock, h2, h3, h4⟩
  · exact ⟨0, by omega, fun _ _ => .inl ⟨rfl, rfl⟩⟩
  · exact ⟨es.size, h3, fun w' hb => .inr ⟨b, es, clock, rfl, (hb.block b h1).trans h2, rfl⟩⟩
theorem IsVal.set_inv {w : World} {B : Nat} {y : Value} (h : IsVal w B (.iface 180 y)) : ∃ m h, y = .agg #[.map m, .int .u64 h] ∧ SetM w B KU (IsVal w B) m := by
  cases h with
  | setNil h => exact ⟨_, h, rfl, .inl rfl⟩
  | set b es clock h h1 h2 h3 h4 h5 => exact ⟨_, h, rfl, .inr ⟨b, rfl, h1, es, clock, h2, h3, fun e he => ⟨(h4 e he).1, (h4 e he).2, h5 e he⟩⟩⟩
theorem IsVal.rec_inv {w : World} {B : Nat} {y : Value} (h : IsVal w B (.iface 52 y)) : ∃ m h, y = .agg #[.map m, .int .u64 h] ∧ SetM w B KS (IsVal w B) m := by
  cases h with
  | recNil h => exact ⟨_, h, rfl, .inl rfl⟩
  | recd b es clock h h1 h2 h3 h4 h5 => exact ⟨_, h, rfl, .inr ⟨b, rfl, h1, es, clock, h2, h3, fun e he => ⟨(h4 e he).1, (h4 e he).2, h5 e he⟩⟩⟩
theorem contains_any (w0 : World) (B : Nat) (v : Value) (hash : ∀ w1, Inv Tryz.prog HK v [] w1 (HashR w1)) (heq : EqOK w0 B v) (m : Option Nat) (h : Int) (w : World)
    (hw : Below B w0 w) (hBw : B ≤ w.heap.size) (hm : SetM w B KU (IsVal w B) m) :
    Calls Tryz.prog 303 #[.agg #[.map m, .int .u64 h], v] w (EqPost w) := by
  rcases hm with rfl | ⟨b, rfl, h1, es, clock, h2, h3, h4⟩
  · exact contains_nil v hash h w
  · exact contains_some w0 B v hash heq b es clock h w hw hBw h1 h2 h3 (fun e he => ⟨(h4 e he).1, (h4 e he).2.1⟩) (fun e he => (h4 e he).2.2)
end Go.Proofs.Exp
namespace Go.Proofs.Exp
open Go.RowKit
set_option linter.unusedVariables false
def VE (w0 : World) (B : Nat) (v : Value) : Prop := IsVal w0 B v ∧ EqOK w0 B v
set_option maxRecDepth 20000 in
set_option maxHeartbeats 1600000 in
theorem seteq_none (w0 : World) (B : Nat)  (m2 : Option Nat) (h h2 : Int) (w : World) (hw : Below B w0 w) (hBw : B ≤ w.heap.size)
    (hm : SetM w0 B KU (VE w0 B) none) (hm2 : SetM w B KU (IsVal w B) m2) :
    Calls Tryz.prog 304 #[.agg #[.map none, .int .u64 h], .iface 180 (.agg #[.map m2, .int .u64 h2])] w (EqPost w) := by
  have hta := ta_set (.agg #[.map m2, .int .u64 h2])
  obtain ⟨n1, hn1, hl1⟩ := hm.len
  obtain ⟨n2, hn2, hl2⟩ := hm2.len
  have L1 : ∀ o1 o2, MapLen ((w.alloc o1).alloc o2) none n1 := fun o1 o2 => hl1 _ (hw.trans (((Below.refl B w).alloc hBw _).alloc (by simp; omega) _))
  have L2 : ∀ o1 o2, MapLen ((w.alloc o1).alloc o2) m2 n2 := fun o1 o2 => hl2 _ (((Below.refl B w).alloc hBw _).alloc (by simp; omega) _)
  clear hl1 hl2
  go_enter Tryz.func304, Tryz.ntmps304
  go_wp2_with (first
    | ((with_reducible show wpList _ _ _ ({ dst := _, op := Op.call { callee := Callee.builtin Builtin.len, args := #[Operand.tmp 17], argTypes := #[178] }, type := _, pos := _, after := _, guard := _ } :: _) _ _); refine wpList_lenm rfl _ 178 rfl 50 44 u178T none rfl n1 (L1 _ _) ?_)
    | ((with_reducible show wpList _ _ _ ({ dst := _, op := Op.call { callee := Callee.builtin Builtin.len, args := #[Operand.tmp 20], argTypes := #[178] }, type := _, pos := _, after := _, guard := _ } :: _) _ _); refine wpList_lenm rfl _ 178 rfl 50 44 u178T m2 rfl n2 (L2 _ _) ?_)
    | ((with_reducible show wpList _ _ _ ({ dst := _, op := Op.range _ _, type := _, pos := _, after := _, guard := _ } :: _) _ _); refine wpList_range_nil rfl 178 _ rfl 50 44 u178T rfl ?_))
  · go_ret
    exact ⟨_, rfl, (below_refl_alloc w _).alloc (by simp) _⟩
  · go_frame
    go_loopw [33] (fun _ wr => wr = ((w.alloc (.cells #[.map none, .int .u64 h] 180)).alloc (.cells #[.map m2, .int .u64 h2] 180)).alloc (.mapIter none 0 #[] 0)) (fun _ _ => 0)
    case atStart => rfl
    case round =>
      subst hrel
      go_wp2_with ((with_reducible show wpList _ _ _ ({ dst := _, op := Op.next _ _, type := _, pos := _, after := _, guard := _ } :: _) _ _); refine wpList_next_nil rfl _ rfl _ rfl 0 0 #[] (heap_alloc_new _ _) ?_)
      go_ret
      exact ⟨_, rfl, ((below_refl_alloc w _).alloc (by simp) _).alloc (by simp; omega) _⟩
  · go_ret
    exact ⟨_, rfl, (below_refl_alloc w _).alloc (by simp) _⟩
set_option maxRecDepth 20000 in
set_option maxHeartbeats 1600000 in
theorem seteq_some (w0 : World) (B : Nat) (b : Nat) (m2 : Option Nat) (h h2 : Int) (w : World) (hw : Below B w0 w) (hBw : B ≤ w.heap.size)
    (hm : SetM w0 B KU (VE w0 B) (some b)) (hm2 : SetM w B KU (IsVal w B) m2) :
    Calls Tryz.prog 304 #[.agg #[.map (some b), .int .u64 h], .iface 180 (.agg #[.map m2, .int .u64 h2])] w (EqPost w) := by
  have hta := ta_set (.agg #[.map m2, .int .u64 h2])
  obtain ⟨n1, hn1, hl1⟩ := hm.len
  obtain ⟨n2, hn2, hl2⟩ := hm2.len
  have L1 : ∀ o1 o2, MapLen ((w.alloc o1).alloc o2) (some b) n1 := fun o1 o2 => hl1 _ (hw.trans (((Below.refl B w).alloc hBw _).alloc (by simp; omega) _))
  have L2 : ∀ o1 o2, MapLen ((w.alloc o1).alloc o2) m2 n2 := fun o1 o2 => hl2 _ (((Below.refl B w).alloc hBw _).alloc (by simp; omega) _)
  clear hl1 hl2
  go_enter Tryz.func304, Tryz.ntmps304
  go_wp2_with (first
    | ((with_reducible show wpList _ _ _ ({ dst := _, op := Op.call { callee := Callee.builtin Builtin.len, args := #[Operand.tmp 17], argTypes := #[178] }, type := _, pos := _, after := _, guard := _ } :: _) _ _); refine wpList_lenm rfl _ 178 rfl 50 44 u178T (some b) rfl n1 (L1 _ _) ?_)
    | ((with_reducible show wpList _ _ _ ({ dst := _, op := Op.call { callee := Callee.builtin Builtin.len, args := #[Operand.tmp 20], argTypes := #[178] }, type := _, pos := _, after := _, guard := _ } :: _) _ _); refine wpList_lenm rfl _ 178 rfl 50 44 u178T m2 rfl n2 (L2 _ _) ?_)
    | ((with_reducible show wpList _ _ _ ({ dst := _, op := Op.range _ _, type := _, pos := _, after := _, guard := _ } :: _) _ _); refine wpList_rangem rfl 178 _ rfl 50 44 u178T b rfl KU (VE w0 B) 140737488351232 ?hmap ?_))
  case hmap =>
    obtain ⟨b', hb', h1, h2⟩ := hm.resolve_left (by simp)
    obtain rfl : b = b' := by simpa using hb'
    exact h2.below (hw.trans (((Below.refl B w).alloc hBw _).alloc (by simp; omega) _)) h1
  · go_ret
    exact ⟨_, rfl, (below_refl_alloc w _).alloc (by simp) _⟩
  · intro w1 hit hsz hb1
    have hbB : b < B := by
      obtain ⟨b', hb', h1, h2⟩ := hm.resolve_left (by simp)
      obtain rfl : b = b' := by simpa using hb'
      exact h1
    have q0 : w1.cell? ⟨w.heap.size + 1, 0, none⟩ = some (.map m2) := cell_below hb1 (by simp) (by go_simp)
    have q1 : w1.cell? ⟨w.heap.size + 1, 1, none⟩ = some (.int .u64 h2) := cell_below hb1 (by simp) (by go_simp)
    have hW : Below w.heap.size w w1 := ((below_refl_alloc w _).alloc (by simp) _).trans (hb1.mono (by omega))
    clear hb1 L1 L2
    go_wp2_with fail
    go_loopw [33] (fun _ wr => ∃ s, Iter wr (w.heap.size + 1 + 1) b KU (VE w0 B) s ∧ Below (w.heap.size + 1 + 1) w1 wr) (fun _ wr => itLeft wr (w.heap.size + 1 + 1) b)
    case atStart => exact ⟨_, hit, Below.refl _ _⟩
    case round =>
      obtain ⟨s, hit2, hwr⟩ := hrel
      have hsz2 := hwr.size
      go_wp2_with ((with_reducible show wpList _ _ _ ({ dst := _, op := Op.next _ _, type := _, pos := _, after := _, guard := _ } :: _) _ _); refine wpList_nextm rfl _ rfl _ b rfl KU _ s hit2 ?_ ?_)
      · go_wp2
        go_ret
        exact ⟨_, rfl, hW.trans (hwr.mono (by omega))⟩
      · intro kv vv w2 hk hv hit3 hlt hs2 hoth hbl
        have hw2 : Below (w.heap.size + 1 + 1) w1 w2 := hwr.trans (hbl _ (Nat.le_refl _))
        have r0 := cell_below hw2 (by simp) q0
        have r1 := cell_below hw2 (by simp) q1
        go_wp2_with ((with_reducible show wpList _ _ _ ({ dst := _, op := Op.entry _, type := _, pos := _, after := _, guard := _ } :: _) _ _); refine wpList_entrym rfl _ rfl _ b rfl KU _ hit3 ?_)
        intro kv2 vv2 hk2 hv2
        have hww2 : Below B w w2 := (hW.mono hBw).trans (hw2.mono (by omega))
        have hcon := contains_any w0 B vv2 (hash_any hv2.1) hv2.2 m2 h2 w2 (hw.trans hww2) (by omega) (hm2.kept hww2 (Nat.le_refl _) (fun v hv => hv.kept hww2 (Nat.le_refl _)))
        go_wp2_with fail
        refine hcon.mono ?_
        rintro e w3 ⟨bb, rfl, hb3⟩
        have hw3 : Below (w.heap.size + 1 + 1) w1 w3 := hw2.trans (hb3.mono (by omega))
        obtain ⟨hit4, hle⟩ := hit3.kept (hb3.block _ (by omega)) (hb3.block _ (by omega))
        cases bb with
        | true =>
          go_wp2
          go_roundw
          case rel => exact ⟨_, hit4, hw3⟩
          case measure => rw [hle]; exact hlt
        | false =>
          go_wp2
          go_ret
          exact ⟨_, rfl, hW.trans (hw3.mono (by omega))⟩
  · go_ret
    exact ⟨_, rfl, (below_refl_alloc w _).alloc (by simp) _⟩
end Go.Proofs.Exp
