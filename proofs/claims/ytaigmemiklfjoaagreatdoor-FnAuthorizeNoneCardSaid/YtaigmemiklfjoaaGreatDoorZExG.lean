/- Part of the proof of FnAuthorizeNone: without policies no request is allowed; for every world that comes in. -/
import Derived.Test.YtaigmemiklfjoaaGreatDoorZLay5
set_option linter.unusedSimpArgs false
set_option linter.unusedVariables false
set_option linter.unnecessarySimpa false
namespace Go.Proofs.Exp
open Go.RowKit
set_option linter.unusedVariables false
def HasG (t : TypeId) (w : World) (hb : Nat) : Prop := ∃ x : Int, w.heap[hb]? = some (.cells #[.int .u64 x] t (0, 0))
/-- From a to b nothing has turned but the one number at block hb, and new blocks. -/
structure ExG (t : TypeId) (hb : Nat) (a b : World) : Prop where
  os : b.os = a.os
  tape : b.tape = a.tape
  output : b.output = a.output
  size : a.heap.size ≤ b.heap.size
  other : ∀ c, c ≠ hb → c < a.heap.size → b.heap[c]? = a.heap[c]?
  cell : HasG t a hb → HasG t b hb
theorem ExG.refl {t : TypeId} (hb : Nat) (a : World) : ExG t hb a a := ⟨rfl, rfl, rfl, Nat.le_refl _, fun _ _ _ => rfl, id⟩
theorem ExG.trans {t : TypeId} {hb : Nat} (a b c : World) (h : ExG t hb a b) (k : ExG t hb b c) : ExG t hb a c :=
  ⟨k.os.trans h.os, k.tape.trans h.tape, k.output.trans h.output, Nat.le_trans h.size k.size, fun i hi hl => (k.other i hi (Nat.lt_of_lt_of_le hl h.size)).trans (h.other i hi hl), fun x => k.cell (h.cell x)⟩
theorem ExG.below {t : TypeId} {hb : Nat} {a b : World} (h : Below a.heap.size a b) : ExG t hb a b :=
  ⟨h.os, h.tape, h.output, h.size, fun c _ hl => h.block c hl, fun ⟨x, hx⟩ => ⟨x, (h.block hb (Array.getElem?_eq_some_iff.1 hx).1).trans hx⟩⟩
theorem ExG.set {t : TypeId} {hb : Nat} {a : World} (h : HasG t a hb) (x : Int) : ExG t hb a (a.setCell ⟨hb, 0, none⟩ (.int .u64 x)) ∧ HasG t (a.setCell ⟨hb, 0, none⟩ (.int .u64 x)) hb := by
  obtain ⟨y, hy⟩ := h
  have hn : HasG t (a.setCell ⟨hb, 0, none⟩ (.int .u64 x)) hb := ⟨x, setCell_here hy _⟩
  exact ⟨⟨rfl, rfl, rfl, by simp [World.setCell], fun c hc hl => Below.heap_setCell _ _ _ _ hc, fun _ => hn⟩, hn⟩
theorem ExG.toBelow {t : TypeId} {hb B : Nat} {a b : World} (h : ExG t hb a b) (h1 : B ≤ hb) (h2 : B ≤ a.heap.size) : Below B a b :=
  ⟨h.os, h.tape, h.output, h.size, fun k hk => h.other k (by omega) (by omega)⟩
end Go.Proofs.Exp
namespace Go.Proofs.Exp
open Go.RowKit
set_option linter.unusedVariables false
section
variable {P : Program} {o : Oper} {a : Act} {w : World} {K : Act → World → Prop} {Q : Exit → Act → World → Prop}
theorem wpo_extract (x : Operand) (i : Nat) (ho : o.op = .extract x i) (v u : Value) (hx : a.eval x = v) (hr : (Instr.extract v i).run P w = .ok u w) (h : K (a.put o.dst u) w) : o.wp P a w K Q := by
  unfold Oper.wp; simp only [execOp, ho, hx, Sem.run_bind, hr, Result.andThen_ok, Sem.run_pure, Oper.upon]; exact h
theorem wpo_makeFunc (f : Fn) (x : Operand) (ho : o.op = .makeFunc f #[x] #[]) (v : Value) (hx : a.eval x = v) (h : K (a.put o.dst (.func f #[v] #[])) w) : o.wp P a w K Q := by
  unfold Oper.wp; simp only [execOp, ho, Instr.makeFunc, List.map_toArray, List.map_cons, List.map_nil, hx, Sem.run_bind, Result.andThen_ok, Sem.run_pure, Oper.upon]; exact h
theorem wpo_nilCheck_method (x : Operand) (ho : o.op = .nilCheck x) (t : TypeId) (v : Value) (name : String) (hx : a.eval x = .func (.method name) #[.iface t v] #[]) (hn : (nilAhead (P.types.size + Made.depth) t v name).run P w = .ok (some false) w)
    (h : K (a.put o.dst (.func (.method name) #[.iface t v] #[])) w) : o.wp P a w K Q := by
  unfold Oper.wp
  simp only [execOp, ho, hx]
  have e0 : (#[Value.iface t v] : Array Value)[0]? = some (.iface t v) := rfl
  simp only [e0, program, Sem.run_bind, Sem.run, Result.andThen_ok, hn, bne_self_eq_false, Bool.false_eq_true, if_false, Sem.run_pure, Oper.upon]
  exact h
theorem wpo_look (t : TypeId) (m k : Operand) (ho : o.op = .lookup t m k false)
    (kt et : TypeId) (kd : TypeDesc) (ht : P.underlying t = some (.map kt et)) (hkt : P.underlying kt = some kd) (hd : kd = .string ∨ ∃ k, kd = .int k)
    (z : Value) (hz : ∀ w, (zeroValue et).run P w = .ok z w) (b : Nat) (hm : a.eval m = .map (some b)) (kv : Value) (hkv : a.eval k = kv)
    (es : Array MapEntry) (clock : Nat) (hb : w.heap[b]? = some (.map es clock)) (hpk : PlainKeys kd kv es)
    (h1 : ∀ e, e ∈ es.toList → e.key = kv → K (a.put o.dst e.val) w)
    (h2 : (∀ e ∈ es.toList, e.key ≠ kv) → K (a.put o.dst z) w) : o.wp P a w K Q := by
  unfold Oper.wp
  rcases run_look (P := P) ht hkt hd hb (k := kv) hpk (hz w) false with ⟨e, hee, hek, hr⟩ | ⟨hno, hr⟩
  · simp only [execOp, ho, hm, hkv, Sem.run_bind, hr, Result.andThen_ok, Sem.run_pure, Oper.upon]
    exact h1 _ hee hek
  · simp only [execOp, ho, hm, hkv, Sem.run_bind, hr, Result.andThen_ok, Sem.run_pure, Oper.upon]
    exact h2 hno
end
theorem ahead_write (p : Addr) (w : World) : (nilAhead (Tryz.prog.types.size + Made.depth) 260 (.pointer (some p)) "Write").run Tryz.prog w = .ok (some false) w := by kernel_rfl
theorem load201 (w : World) (p : Addr) : (Instr.loadAt 201 (.pointer (some p))).run Tryz.prog w = .ok (.agg #[]) w := by kernel_rfl
end Go.Proofs.Exp
