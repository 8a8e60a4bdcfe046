/- Part of the proof of FnAuthorizeNone: without policies no request is allowed; for every world that comes in. -/
import Derived.Test.YtaigmemiklfjoaaGreatDoorZMapL
import Derived.Test.YtaigmemiklfjoaaGreatDoorZTA
set_option linter.unusedSimpArgs false
set_option linter.unusedVariables false
set_option linter.unnecessarySimpa false
namespace Go.Proofs.Exp
open Go.RowKit
set_option linter.unusedVariables false
abbrev mx47 : Nat := 140737488351232
abbrev HK : String := "pub-claviger/pub/cedargo/types.hash"

inductive IsVal (w : World) (B : Nat) : Value → Prop
  | bool (x : Bool) : IsVal w B (.iface 110 (.bool x))
  | long (n : Int) : IsVal w B (.iface 174 (.int .i64 n))
  | str (s : ByteArray) (hs : s.size ≤ 140737488351232) : IsVal w B (.iface 64 (.string s))
  | uid (s t : ByteArray) (hs : s.size ≤ 140737488351232) (ht : t.size ≤ 140737488351232) : IsVal w B (.iface 66 (.agg #[.string s, .string t]))
  | dec (n : Int) : IsVal w B (.iface 183 (.agg #[.int .i64 n]))
  | dt (n : Int) : IsVal w B (.iface 185 (.agg #[.int .i64 n]))
  | dur (n : Int) : IsVal w B (.iface 187 (.agg #[.int .i64 n]))
  | setNil (h : Int) : IsVal w B (.iface 180 (.agg #[.map none, .int .u64 h]))
  | set (b : Nat) (es : Array MapEntry) (clock : Nat) (h : Int) (hB : b < B) (hb : w.heap[b]? = some (.map es clock)) (hn : es.size ≤ 140737488351232)
      (hk : ∀ e ∈ es.toList, e.born < clock ∧ ∃ k : Int, e.key = .int .u64 k) (hv : ∀ e ∈ es.toList, IsVal w B e.val) : IsVal w B (.iface 180 (.agg #[.map (some b), .int .u64 h]))
  | recNil (h : Int) : IsVal w B (.iface 52 (.agg #[.map none, .int .u64 h]))
  | recd (b : Nat) (es : Array MapEntry) (clock : Nat) (h : Int) (hB : b < B) (hb : w.heap[b]? = some (.map es clock)) (hn : es.size ≤ 140737488351232)
      (hk : ∀ e ∈ es.toList, e.born < clock ∧ ∃ k : ByteArray, e.key = .string k ∧ k.size ≤ 140737488351232) (hv : ∀ e ∈ es.toList, IsVal w B e.val) : IsVal w B (.iface 52 (.agg #[.map (some b), .int .u64 h]))

theorem IsVal.kept {w w' : World} {B B' : Nat} {v : Value} (h : IsVal w B v) (hb : Below B w w') (hB : B ≤ B') : IsVal w' B' v := by
  induction h with
  | bool x => exact .bool x
  | long n => exact .long n
  | str s hs => exact .str s hs
  | uid s t hs ht => exact .uid s t hs ht
  | dec n => exact .dec n
  | dt n => exact .dt n
  | dur n => exact .dur n
  | setNil h => exact .setNil h
  | set b es clock h h1 h2 h3 h4 h5 ih => exact .set b es clock h (by omega) ((hb.block b h1).trans h2) h3 h4 ih
  | recNil h => exact .recNil h
  | recd b es clock h h1 h2 h3 h4 h5 ih => exact .recd b es clock h (by omega) ((hb.block b h1).trans h2) h3 h4 ih

/-- A call of a method of an interface value. -/
def Inv (P : Program) (name : String) (v : Value) (vs : List Value) (w : World) (R : Value → World → Prop) : Prop :=
  ∃ T x f rv fn, v = .iface T x ∧ (method (P.types.size + Made.depth) T x name).run P w = .ok (f, rv) w ∧ P.funcs[f]? = some fn ∧ (fn.name == "runtime.NumGoroutine") = false ∧ fn.body.isNone = false ∧
    Calls P f (rv :: vs).toArray w (fun e w' => ∃ y, e = .returned y ∧ R y w')

theorem wpList_inv {P : Program} {ops : Array Oper} {rest : List Oper} {o : Oper} {a : Act} {w : World} {Q : Exit → Act → World → Prop}
    (hgd : o.guard = none) (r : Operand) (name : String) (args : Array Operand) (ats : Array TypeId)
    (ho : o.op = .call { callee := .invoke r name, args := args, argTypes := ats })
    (v : Value) (hr : a.eval r = v) (vs : List Value) (hvs : (args.toList.map a.eval) = vs) (R : Value → World → Prop) (hI : Inv P name v vs w R)
    (h : ∀ y w', R y w' → wpList P ops Q rest (a.put o.dst y) w') : wpList P ops Q (o :: rest) a w := by
  obtain ⟨T, x, f, rv, fn, rfl, hm, hf, hn, hb, hc⟩ := hI
  refine wpList_invoke hgd r name args ats ho T x hr f rv fn hm hf hn hb vs hvs (hc.mono ?_)
  rintro e w' ⟨y, rfl, hR⟩
  exact h y w' hR

def HashR (w : World) (y : Value) (w' : World) : Prop := ∃ h : Int, y = .int .u64 h ∧ Below w.heap.size w w'
def EqR (w : World) (y : Value) (w' : World) : Prop := ∃ b : Bool, y = .bool b ∧ Below w.heap.size w w'
theorem hash_to {f : FuncId} {args : Array Value} {w : World} (h : Calls Tryz.prog f args w (HashPost w)) : Calls Tryz.prog f args w (fun e w' => ∃ y, e = .returned y ∧ HashR w y w') :=
  h.mono fun e w' ⟨x, he, hb⟩ => ⟨_, he, x, rfl, hb⟩
theorem eq_to {f : FuncId} {args : Array Value} {w : World} (h : Calls Tryz.prog f args w (EqPost w)) : Calls Tryz.prog f args w (fun e w' => ∃ y, e = .returned y ∧ EqR w y w') :=
  h.mono fun e w' ⟨x, he, hb⟩ => ⟨_, he, x, rfl, hb⟩

theorem hash_any {w : World} {B : Nat} {v : Value} (h : IsVal w B v) (w1 : World) : Inv Tryz.prog HK v [] w1 (HashR w1) := by
  cases h with
  | bool x => exact ⟨_, _, _, _, Tryz.f289, rfl, mh_bool x w1, Tryz.func289, by kernel_rfl, by kernel_rfl, hash_to (hash_bool x w1)⟩
  | long n => exact ⟨_, _, _, _, Tryz.f301, rfl, mh_long n w1, Tryz.func301, by kernel_rfl, by kernel_rfl, hash_to (hash_long n w1)⟩
  | str s hs => exact ⟨_, _, _, _, Tryz.f274, rfl, mh_str s w1, Tryz.func274, by kernel_rfl, by kernel_rfl, hash_to (hash_str s w1 hs)⟩
  | uid s t hs ht => exact ⟨_, _, _, _, Tryz.f279, rfl, mh_uid s t w1, Tryz.func279, by kernel_rfl, by kernel_rfl, hash_to (hash_uid s t w1 hs ht)⟩
  | dec n => exact ⟨_, _, _, _, Tryz.f314, rfl, mh_dec n w1, Tryz.func314, by kernel_rfl, by kernel_rfl, hash_to (hash_dec n w1)⟩
  | dt n => exact ⟨_, _, _, _, Tryz.f319, rfl, mh_dt n w1, Tryz.func319, by kernel_rfl, by kernel_rfl, hash_to (hash_dt n w1)⟩
  | dur n => exact ⟨_, _, _, _, Tryz.f323, rfl, mh_dur n w1, Tryz.func323, by kernel_rfl, by kernel_rfl, hash_to (hash_dur n w1)⟩
  | setNil h => exact ⟨_, _, _, _, Tryz.f308, rfl, mh_set _ h w1, Tryz.func308, by kernel_rfl, by kernel_rfl, hash_to (hash_set _ h w1)⟩
  | set b es clock h _ _ _ _ _ => exact ⟨_, _, _, _, Tryz.f308, rfl, mh_set _ h w1, Tryz.func308, by kernel_rfl, by kernel_rfl, hash_to (hash_set _ h w1)⟩
  | recNil h => exact ⟨_, _, _, _, Tryz.f266, rfl, mh_rec _ h w1, Tryz.func266, by kernel_rfl, by kernel_rfl, hash_to (hash_rec _ h w1)⟩
  | recd b es clock h _ _ _ _ _ => exact ⟨_, _, _, _, Tryz.f266, rfl, mh_rec _ h w1, Tryz.func266, by kernel_rfl, by kernel_rfl, hash_to (hash_rec _ h w1)⟩

/-- A value that can be held against every other one, from a world on. -/
def EqOK (w0 : World) (B : Nat) (v : Value) : Prop :=
  ∀ w x, Below B w0 w → B ≤ w.heap.size → IsVal w B x → Inv Tryz.prog "Equal" v [x] w (EqR w)
end Go.Proofs.Exp
