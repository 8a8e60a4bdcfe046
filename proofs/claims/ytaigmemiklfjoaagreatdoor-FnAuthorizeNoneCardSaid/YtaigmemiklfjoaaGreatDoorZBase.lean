/- Part of the proof of FnAuthorizeNone: without policies no request is allowed; for every world that comes in. -/
import Derived.WalkKit
import Derived.WalkSpells
import Derived.WalkLawsBesides
set_option linter.unusedSimpArgs false
set_option linter.unusedVariables false
set_option linter.unnecessarySimpa false
set_option linter.unusedSimpArgs false
set_option linter.unusedVariables false
namespace Go.Proofs.Exp
open Go.RowKit

/-- A call through an interface value whose method is known. -/
theorem wpList_invoke {P : Program} {ops : Array Oper} {rest : List Oper} {o : Oper} {a : Act} {w : World} {Q : Exit → Act → World → Prop}
    (hgd : o.guard = none) (r : Operand) (name : String) (args : Array Operand) (ats : Array TypeId)
    (ho : o.op = .call { callee := .invoke r name, args := args, argTypes := ats })
    (t : TypeId) (v : Value) (hr : a.eval r = .iface t v)
    (f : FuncId) (rv : Value) (fn : Func) (hm : (method (P.types.size + Made.depth) t v name).run P w = .ok (f, rv) w)
    (hf : P.funcs[f]? = some fn) (hn : (fn.name == "runtime.NumGoroutine") = false) (hb : fn.body.isNone = false)
    (vs : List Value) (hvs : (args.toList.map a.eval) = vs)
    (h : Calls P f (rv :: vs).toArray w fun
      | .returned x, w' => wpList P ops Q rest (a.put o.dst x) w'
      | .panicked chain, w' => Q (.panic chain) a w'
      | .outgrown, _ => LetsOut Q) : wpList P ops Q (o :: rest) a w := by
  refine wpList_plain hgd fun K hK => ?_
  have hvs' : args.map a.eval = vs.toArray := by rw [← hvs, ← Array.toList_map, Array.toArray_toList]
  have hvs2 : #[rv] ++ vs.toArray = (rv :: vs).toArray := by rw [List.append_toArray]; rfl
  unfold Oper.wp execOp
  simp only [ho, resolve, invoke, callMethod, callFunc, Sem.run_bind, Sem.run_pure, Result.andThen_ok, hr, hvs']
  have e0 : (#[Value.iface t v] ++ vs.toArray)[0]? = some (.iface t v) := by rw [Array.getElem?_append_left (Nat.zero_lt_one)]; rfl
  have e1 : (#[Value.iface t v] ++ vs.toArray).extract 1 = vs.toArray := by rw [List.append_toArray]; simp
  simp only [e0, e1, hvs2, program, Sem.run_bind, hm, Result.andThen_ok, Sem.run, hf, hn, hb, Bool.false_eq_true, if_false, Oper.upon]
  refine Calls.mono h fun e w' he => ?_
  cases e with
  | returned x => exact hK _ _ he
  | panicked c => exact he
  | outgrown => exact he

theorem cell_at {w : World} {b o : Nat} {c : Array Value} {e : TypeId} {f : Nat × Nat} (h : w.heap[b]? = some (.cells c e f)) : w.cell? ⟨b, o, none⟩ = c[o]? := by
  simp [World.cell?, h]

theorem below_refl_alloc (w : World) (o : Obj) : Below w.heap.size w (w.alloc o) := (Below.refl _ w).alloc (Nat.le_refl _) o

/-- '[]byte(s)': a new block that holds the bytes. -/
theorem wpList_str_bytes {P : Program} {ops : Array Oper} {rest : List Oper} {o : Oper} {a : Act} {w : World} {Q : Exit → Act → World → Prop}
    (hgd : o.guard = none) (src dst e : TypeId) (x : Operand) (ho : o.op = .convert src dst x)
    (hs : P.underlying src = some .string) (hd : P.underlying dst = some (.slice e)) (he : P.underlying e = some (.int .u8))
    (s : ByteArray) (hx : a.eval x = .string s)
    (h : ∀ w' cap, w'.heap.size = w.heap.size + 1 → Below w.heap.size w w' →
      (∀ i, i < s.size → w'.cell? ⟨w.heap.size, i, none⟩ = some (.int .u8 ((s.data[i]?.getD 0).toNat : Int))) →
      wpList P ops Q rest (a.put o.dst (.slice (some ⟨w.heap.size, 0, none⟩) s.size cap)) w') : wpList P ops Q (o :: rest) a w := by
  refine wpList_plain hgd fun K hK => ?_
  unfold Oper.wp
  have hrun := run_bytes_of_string (P := P) w src dst e s hs hd he
  simp only [execOp, ho, hx, Sem.run_bind, hrun, Result.andThen_ok, Sem.run_pure, Oper.upon]
  refine hK _ _ (h _ _ ?_ ?_ ?_)
  · simp
  · exact ((Below.refl _ w).drew).alloc (Nat.le_refl _) _
  · intro i hi
    have hb : (w.drew.alloc (.cells (bytesRow s (grownCap w s.size 0 e)) e ((bytesRow s (grownCap w s.size 0 e)).size, (bytesRow s (grownCap w s.size 0 e)).size + 1))).heap[w.heap.size]? = some (.cells (bytesRow s (grownCap w s.size 0 e)) e ((bytesRow s (grownCap w s.size 0 e)).size, (bytesRow s (grownCap w s.size 0 e)).size + 1)) := heap_alloc_new w.drew _
    have hi' : i < s.data.size := hi
    rw [cell_at hb, bytesRow, Array.getElem?_append_left (by simpa using hi')]
    simp [hi']
    exact ⟨s.data[i], Array.getElem?_eq_getElem hi', by rw [Array.getElem?_eq_getElem hi']; rfl⟩

theorem cell_below {B : Nat} {w w' : World} {v : Value} (h : Below B w w') {p : Addr} (hp : p.block < B) (hc : w.cell? p = some v) : w'.cell? p = some v := (h.cell hp).trans hc
theorem frozen_below {B : Nat} {w w' : World} {v : Bool} (h : Below B w w') {p : Addr} (hp : p.block < B) (hc : w.frozen? p = v) : w'.frozen? p = v := (h.frozen hp).trans hc
end Go.Proofs.Exp
