/- Part of the proof of FnAuthorizeNone: without policies no request is allowed; for every world that comes in. -/
import Derived.Test.YtaigmemiklfjoaaGreatDoorZTA
import Derived.Maps.OwnOps
set_option linter.unusedSimpArgs false
set_option linter.unusedVariables false
set_option linter.unnecessarySimpa false
namespace Go.Proofs.Exp
open Go.RowKit
set_option linter.unusedVariables false
set_option linter.unusedSimpArgs false

/-- A key of a plain kind is found at once. -/
theorem findNow_spec (kind : TypeDesc) (k : Value) : ∀ (es : List MapEntry) (i : Nat),
    (∀ e ∈ es, ∃ b, Instr.sameNow kind k e.key = some b ∧ (b = true ↔ e.key = k)) →
    (∃ (j : Nat) (e : MapEntry), es[j]? = some e ∧ e.key = k ∧ Instr.findNow kind k es i = some (some (i + j, e.val))) ∨
    ((∀ e ∈ es, e.key ≠ k) ∧ Instr.findNow kind k es i = some none)
  | [], i, _ => .inr ⟨by simp, rfl⟩
  | e :: es, i, h => by
    obtain ⟨b, hb, hb2⟩ := h e (by simp)
    cases b with
    | true => exact .inl ⟨0, e, rfl, hb2.1 rfl, by simp [Instr.findNow, hb]⟩
    | false =>
      have hne : e.key ≠ k := fun hh => by simpa using hb2.2 hh
      rcases findNow_spec kind k es (i + 1) (fun e' he' => h e' (by simp [he'])) with ⟨j, e', hj, hk, hf⟩ | ⟨hno, hf⟩
      · exact .inl ⟨j + 1, e', by simpa using hj, hk, by simp only [Instr.findNow, hb, hf]; congr 3; omega⟩
      · refine .inr ⟨?_, by simp only [Instr.findNow, hb, hf]⟩
        intro e' he'
        rcases List.mem_cons.1 he' with rfl | he'
        · exact hne
        · exact hno e' he'

/-- A key that can be compared at once, among the keys of a map. -/
def PlainKeys (kind : TypeDesc) (k : Value) (es : Array MapEntry) : Prop := ∀ e ∈ es.toList, ∃ b, Instr.sameNow kind k e.key = some b ∧ (b = true ↔ e.key = k)

theorem checkKey_plain {P : Program} {t : TypeId} {d : TypeDesc} (hu : P.underlying t = some d) (hd : d = .string ∨ ∃ k, d = .int k) (em : Bool) (v : Value) (w : World) :
    (Instr.checkKey em 10000 t v).run P w = .ok () w := by
  show (Instr.checkKey em (9999 + 1) t v).run P w = .ok () w
  unfold Instr.checkKey
  simp only [Sem.run_bind, run_underlying hu, Result.andThen_ok]
  rcases hd with rfl | ⟨k, rfl⟩ <;> rfl

theorem run_look {P : Program} {t kt et : TypeId} {kd : TypeDesc} (ht : P.underlying t = some (.map kt et)) (hkt : P.underlying kt = some kd) (hd : kd = .string ∨ ∃ k, kd = .int k)
    {w : World} {b : Nat} {es : Array MapEntry} {clock : Nat} (hb : w.heap[b]? = some (.map es clock)) {k : Value} (hk : PlainKeys kd k es)
    {z : Value} (hz : (zeroValue et).run P w = .ok z w) (ok : Bool) :
    (∃ e ∈ es.toList, e.key = k ∧ (Instr.lookup t (.map (some b)) k ok).run P w = .ok (if ok then .tuple #[e.val, .bool true] else e.val) w) ∨
    ((∀ e ∈ es.toList, e.key ≠ k) ∧ (Instr.lookup t (.map (some b)) k ok).run P w = .ok (if ok then .tuple #[z, .bool false] else z) w) := by
  have hc := checkKey_plain (P := P) hkt hd es.isEmpty k w
  rcases findNow_spec kd k es.toList 0 hk with ⟨j, e, hj, hek, hf⟩ | ⟨hno, hf⟩
  · refine .inl ⟨e, List.mem_of_getElem? hj, hek, ?_⟩
    simp only [Instr.lookup, Instr.findKey, Sem.run_bind, run_underlying ht, run_underlying hkt, Result.andThen_ok, getObj, Sem.run, hb, hc, hf, Sem.run_pure]
  · refine .inr ⟨hno, ?_⟩
    simp only [Instr.lookup, Instr.findKey, Sem.run_bind, run_underlying ht, run_underlying hkt, Result.andThen_ok, getObj, Sem.run, hb, hc, hf, Sem.run_pure, hz]

def setMap (w : World) (b : Nat) (es : Array MapEntry) (clock : Nat) : World := { w with heap := w.heap.setIfInBounds b (.map es clock) }
theorem setMap_same {w : World} {b : Nat} {o : Obj} (h : w.heap[b]? = some o) (es : Array MapEntry) (clock : Nat) : (setMap w b es clock).heap[b]? = some (.map es clock) := by
  have hlt := (Array.getElem?_eq_some_iff.1 h).1
  simp [setMap, hlt]
theorem setMap_other {w : World} {b c : Nat} (h : c ≠ b) (es : Array MapEntry) (clock : Nat) : (setMap w b es clock).heap[c]? = w.heap[c]? := by
  simp [setMap, Array.getElem?_setIfInBounds, Ne.symm h]
theorem setMap_size (w : World) (b : Nat) (es : Array MapEntry) (clock : Nat) : (setMap w b es clock).heap.size = w.heap.size := by simp [setMap]
theorem setMap_below {w : World} {b B : Nat} (h : B ≤ b) (es : Array MapEntry) (clock : Nat) : Below B w (setMap w b es clock) :=
  ⟨rfl, rfl, rfl, by rw [setMap_size]; exact Nat.le_refl _, fun k hk => setMap_other (by omega) _ _⟩
theorem setMap_cell {w : World} {b : Nat} {es0 : Array MapEntry} {c0 : Nat} (h : w.heap[b]? = some (.map es0 c0)) (es : Array MapEntry) (clock : Nat) (p : Addr) : (setMap w b es clock).cell? p = w.cell? p := by
  by_cases hp : p.block = b
  · unfold World.cell?; rw [hp, setMap_same h, h]
  · exact World.cell?_of_block (setMap_other hp _ _)
theorem setMap_frozen {w : World} {b : Nat} {es0 : Array MapEntry} {c0 : Nat} (h : w.heap[b]? = some (.map es0 c0)) (es : Array MapEntry) (clock : Nat) (p : Addr) : (setMap w b es clock).frozen? p = w.frozen? p := by
  by_cases hp : p.block = b
  · unfold World.frozen?; rw [hp, setMap_same h, h]
  · exact World.frozen?_of_block (setMap_other hp _ _)

/-- What the entries of a map are, and how many there are at most. -/
def MapHas (w : World) (b : Nat) (K V : Value → Prop) (n : Nat) : Prop :=
  ∃ es clock, w.heap[b]? = some (.map es clock) ∧ es.size ≤ n ∧ ∀ e ∈ es.toList, e.born < clock ∧ K e.key ∧ V e.val
theorem MapHas.lt {w : World} {b : Nat} {K V : Value → Prop} {n : Nat} (h : MapHas w b K V n) : b < w.heap.size := by
  obtain ⟨es, clock, hb, _⟩ := h
  exact (Array.getElem?_eq_some_iff.1 hb).1
theorem MapHas.kept {w w' : World} {b : Nat} {K V : Value → Prop} {n : Nat} (h : MapHas w b K V n) (he : w'.heap[b]? = w.heap[b]?) : MapHas w' b K V n := by
  obtain ⟨es, clock, hb, r⟩ := h
  exact ⟨es, clock, he.trans hb, r⟩
theorem MapHas.below {w w' : World} {b B : Nat} {K V : Value → Prop} {n : Nat} (h : MapHas w b K V n) (hB : Below B w w') (hb : b < B) : MapHas w' b K V n := h.kept (hB.block b hb)
theorem MapHas.made (w : World) (K V : Value → Prop) : MapHas (w.alloc (.map #[] 0)) w.heap.size K V 0 :=
  ⟨#[], 0, heap_alloc_new w _, by simp, by simp⟩
theorem MapHas.weaken {w : World} {b : Nat} {K V K' V' : Value → Prop} {n n' : Nat} (h : MapHas w b K V n) (hn : n ≤ n') (hK : ∀ v, K v → K' v) (hV : ∀ v, V v → V' v) : MapHas w b K' V' n' := by
  obtain ⟨es, clock, hb, hs, r⟩ := h
  exact ⟨es, clock, hb, by omega, fun e he => ⟨(r e he).1, hK _ (r e he).2.1, hV _ (r e he).2.2⟩⟩

theorem upd_ok {es : Array MapEntry} {clock : Nat} {K V : Value → Prop} (h : ∀ e ∈ es.toList, e.born < clock ∧ K e.key ∧ V e.val) {k v : Value} (hk : K k) (hv : V v) (j : Nat) :
    ∀ e ∈ (es.modify j fun e => { e with key := k, val := v }).toList, e.born < clock ∧ K e.key ∧ V e.val := by
  intro e he
  obtain ⟨i, hi, rfl⟩ := List.getElem_of_mem he
  have hi' : i < es.size := by simpa using hi
  simp only [Array.getElem_toList, Array.getElem_modify]
  have h0 := h es[i] (by simp)
  split
  · exact ⟨h0.1, hk, hv⟩
  · exact h0

theorem push_ok {es : Array MapEntry} {clock : Nat} {K V : Value → Prop} (h : ∀ e ∈ es.toList, e.born < clock ∧ K e.key ∧ V e.val) {k v : Value} (hk : K k) (hv : V v) :
    ∀ e ∈ (es.push { key := k, val := v, born := clock }).toList, e.born < clock + 1 ∧ K e.key ∧ V e.val := by
  intro e he
  simp only [Array.toList_push, List.mem_append, List.mem_singleton] at he
  rcases he with he | rfl
  · have := h e he
    exact ⟨by omega, this.2⟩
  · exact ⟨Nat.lt_succ_self _, hk, hv⟩

theorem run_upd {P : Program} {t kt et : TypeId} {kd : TypeDesc} (ht : P.underlying t = some (.map kt et)) (hkt : P.underlying kt = some kd) (hd : kd = .string ∨ ∃ k, kd = .int k)
    {w : World} {b : Nat} {K V : Value → Prop} {n : Nat} (hm : MapHas w b K V n) {k v : Value} (hpk : ∀ k', K k' → ∃ c, Instr.sameNow kd k k' = some c ∧ (c = true ↔ k' = k))
    (hsb : Instr.sameBits 10000 k k = true) (hk : K k) (hv : V v) :
    ∃ w', (Instr.mapUpdate t (.map (some b)) k v).run P w = .ok () w' ∧ MapHas w' b K V (n + 1) ∧ w'.heap.size = w.heap.size ∧
      (∀ c, c ≠ b → w'.heap[c]? = w.heap[c]?) ∧ (∀ p, w'.cell? p = w.cell? p) ∧ (∀ p, w'.frozen? p = w.frozen? p) ∧ (∀ B, B ≤ b → Below B w w') := by
  obtain ⟨es, clock, hb, hn, he⟩ := hm
  have hc := checkKey_plain (P := P) hkt hd false k w
  have hpl : PlainKeys kd k es := fun e hee => hpk _ (he e hee).2.1
  rcases findNow_spec kd k es.toList 0 hpl with ⟨j, e, hj, hek, hf⟩ | ⟨hno, hf⟩
  · have hj' : es[j]? = some e := by simpa using hj
    refine ⟨setMap w b (es.modify j fun e => { e with key := k, val := v }) clock, ?_, ⟨_, _, setMap_same hb _ _, by simp; omega, upd_ok he hk hv j⟩, setMap_size _ _ _ _, fun c hcb => setMap_other hcb _ _, setMap_cell hb _ _, setMap_frozen hb _ _, fun B hB => setMap_below hB _ _⟩
    have hst : Instr.sameBits 10000 e.key k = true := by rw [hek]; exact hsb
    simp only [Instr.mapUpdate, Instr.findKey, Sem.run_bind, run_underlying ht, run_underlying hkt, Result.andThen_ok, getObj, Sem.run, hb, hc, hf, Sem.run_pure, Nat.zero_add, hj', Option.map_some, Option.getD_some, Instr.keyThatStays, hst, if_true, setObj]
    rfl
  · refine ⟨setMap w b (es.push { key := k, val := v, born := clock }) (clock + 1), ?_, ⟨_, _, setMap_same hb _ _, by simp; omega, push_ok he hk hv⟩, setMap_size _ _ _ _, fun c hcb => setMap_other hcb _ _, setMap_cell hb _ _, setMap_frozen hb _ _, fun B hB => setMap_below hB _ _⟩
    simp only [Instr.mapUpdate, Instr.findKey, Sem.run_bind, run_underlying ht, run_underlying hkt, Result.andThen_ok, getObj, Sem.run, hb, hc, hf, Sem.run_pure, setObj]
    rfl

theorem wpList_lookm {P : Program} {ops : Array Oper} {rest : List Oper} {o : Oper} {a : Act} {w : World} {Q : Exit → Act → World → Prop}
    (hgd : o.guard = none) (t : TypeId) (m k : Operand) (ok : Bool) (ho : o.op = .lookup t m k ok)
    (kt et : TypeId) (kd : TypeDesc) (ht : P.underlying t = some (.map kt et)) (hkt : P.underlying kt = some kd) (hd : kd = .string ∨ ∃ k, kd = .int k)
    (z : Value) (hz : ∀ w, (zeroValue et).run P w = .ok z w) (b : Nat) (hm : a.eval m = .map (some b)) (kv : Value) (hkv : a.eval k = kv)
    (es : Array MapEntry) (clock : Nat) (hb : w.heap[b]? = some (.map es clock)) (hpk : PlainKeys kd kv es)
    (h1 : ∀ e, e ∈ es.toList → e.key = kv → wpList P ops Q rest (a.put o.dst (if ok then .tuple #[e.val, .bool true] else e.val)) w)
    (h2 : (∀ e ∈ es.toList, e.key ≠ kv) → wpList P ops Q rest (a.put o.dst (if ok then .tuple #[z, .bool false] else z)) w) : wpList P ops Q (o :: rest) a w := by
  refine wpList_plain hgd fun K' hK' => ?_
  unfold Oper.wp
  rcases run_look (P := P) ht hkt hd hb (k := kv) hpk (hz w) ok with ⟨e, hee, hek, hr⟩ | ⟨hno, hr⟩
  · simp only [execOp, ho, hm, hkv, Sem.run_bind, hr, Result.andThen_ok, Sem.run_pure, Oper.upon]
    exact hK' _ _ (h1 _ hee hek)
  · simp only [execOp, ho, hm, hkv, Sem.run_bind, hr, Result.andThen_ok, Sem.run_pure, Oper.upon]
    exact hK' _ _ (h2 hno)

theorem wpList_look_nil {P : Program} {ops : Array Oper} {rest : List Oper} {o : Oper} {a : Act} {w : World} {Q : Exit → Act → World → Prop}
    (hgd : o.guard = none) (t : TypeId) (m k : Operand) (ok : Bool) (ho : o.op = .lookup t m k ok)
    (kt et : TypeId) (kd : TypeDesc) (ht : P.underlying t = some (.map kt et)) (hkt : P.underlying kt = some kd) (hd : kd = .string ∨ ∃ k, kd = .int k)
    (z : Value) (hz : ∀ w, (zeroValue et).run P w = .ok z w) (hm : a.eval m = .map none)
    (h2 : wpList P ops Q rest (a.put o.dst (if ok then .tuple #[z, .bool false] else z)) w) : wpList P ops Q (o :: rest) a w := by
  refine wpList_plain hgd fun K' hK' => ?_
  unfold Oper.wp
  have hc := checkKey_plain (P := P) hkt hd true (a.eval k) w
  have hr : (Instr.lookup t (.map none) (a.eval k) ok).run P w = .ok (if ok then .tuple #[z, .bool false] else z) w := by
    simp only [Instr.lookup, Instr.findKey, Sem.run_bind, run_underlying ht, run_underlying hkt, Result.andThen_ok, Sem.run_pure]
    rw [show (#[] : Array MapEntry).isEmpty = true from rfl, hc]
    simp only [Instr.findNow, Sem.run_pure, Result.andThen_ok, Sem.run_bind, hz, run_underlying hkt]
  simp only [execOp, ho, hm, Sem.run_bind, hr, Result.andThen_ok, Sem.run_pure, Oper.upon]
  exact hK' _ _ h2

theorem wpList_updm {P : Program} {ops : Array Oper} {rest : List Oper} {o : Oper} {a : Act} {w : World} {Q : Exit → Act → World → Prop}
    (hgd : o.guard = none) (t : TypeId) (m k x : Operand) (ho : o.op = .mapUpdate t m k x)
    (kt et : TypeId) (kd : TypeDesc) (ht : P.underlying t = some (.map kt et)) (hkt : P.underlying kt = some kd) (hd : kd = .string ∨ ∃ k, kd = .int k)
    (b : Nat) (hm : a.eval m = .map (some b)) (kv xv : Value) (hkv : a.eval k = kv) (hxv : a.eval x = xv)
    (K V : Value → Prop) (n : Nat) (hmap : MapHas w b K V n) (hpk : ∀ k', K k' → ∃ c, Instr.sameNow kd kv k' = some c ∧ (c = true ↔ k' = kv))
    (hsb : Instr.sameBits 10000 kv kv = true) (hk : K kv) (hv : V xv)
    (h : ∀ w', MapHas w' b K V (n + 1) → w'.heap.size = w.heap.size → (∀ c, c ≠ b → w'.heap[c]? = w.heap[c]?) → (∀ p, w'.cell? p = w.cell? p) → (∀ p, w'.frozen? p = w.frozen? p) → (∀ B, B ≤ b → Below B w w') →
      wpList P ops Q rest (a.put o.dst undef) w') : wpList P ops Q (o :: rest) a w := by
  refine wpList_plain hgd fun K' hK' => ?_
  unfold Oper.wp
  obtain ⟨w', hr, h1, h2, h3, h4, h5, h6⟩ := run_upd (P := P) ht hkt hd hmap hpk hsb hk hv
  simp only [execOp, ho, hm, hkv, hxv, Sem.run_bind, hr, Result.andThen_ok, Sem.run_pure, Oper.upon]
  exact hK' _ _ (h w' h1 h2 h3 h4 h5 h6)

/-! ### ranging over a map that is only read -/
def itLeft (w : World) (r m : Nat) : Nat :=
  match w.heap[r]?, w.heap[m]? with
  | some (.mapIter _ _ seen _), some (.map es _) => (es.filter fun e => !seen.contains e.born).size
  | _, _ => 0
def Iter (w : World) (r m : Nat) (K V : Value → Prop) (stepped : Bool) : Prop :=
  ∃ es clock seen, w.heap[r]? = some (.mapIter (some m) clock seen clock) ∧ w.heap[m]? = some (.map es clock) ∧
    (∀ e ∈ es.toList, e.born < clock ∧ K e.key ∧ V e.val) ∧ (stepped = true → ∃ e ∈ es.toList, seen.back? = some e.born)
theorem Iter.kept {w w' : World} {r m : Nat} {K V : Value → Prop} {s : Bool} (h : Iter w r m K V s) (hr : w'.heap[r]? = w.heap[r]?) (hm : w'.heap[m]? = w.heap[m]?) : Iter w' r m K V s ∧ itLeft w' r m = itLeft w r m := by
  obtain ⟨es, clock, seen, h1, h2, h3⟩ := h
  exact ⟨⟨es, clock, seen, hr.trans h1, hm.trans h2, h3⟩, by unfold itLeft; rw [hr, hm]⟩
theorem Iter.lt {w : World} {r m : Nat} {K V : Value → Prop} {s : Bool} (h : Iter w r m K V s) : r < w.heap.size ∧ m < w.heap.size := by
  obtain ⟨es, clock, seen, h1, h2, h3⟩ := h
  exact ⟨(Array.getElem?_eq_some_iff.1 h1).1, (Array.getElem?_eq_some_iff.1 h2).1⟩
theorem Iter.stay {w : World} {r m : Nat} {K V : Value → Prop} {s : Bool} (h : Iter w r m K V s) : Iter w r m K V false := by
  obtain ⟨es, clock, seen, h1, h2, h3, h4⟩ := h
  exact ⟨es, clock, seen, h1, h2, h3, fun h => by cases h⟩

theorem run_range {P : Program} {t kt et : TypeId} (ht : P.underlying t = some (.map kt et)) {w : World} {m : Nat} {K V : Value → Prop} {n : Nat} (hm : MapHas w m K V n) :
    ∃ w', (Instr.range t (.map (some m))).run P w = .ok (.pointer (some ⟨w.heap.size, 0, none⟩)) w' ∧ Iter w' w.heap.size m K V false ∧ w'.heap.size = w.heap.size + 1 ∧ Below w.heap.size w w' := by
  have hlt := hm.lt
  obtain ⟨es, clock, hb, hn, he⟩ := hm
  refine ⟨w.alloc (.mapIter (some m) clock #[] clock), ?_, ⟨es, clock, #[], heap_alloc_new w _, ?_, he, by simp⟩, by simp, below_refl_alloc w _⟩
  · simp only [Instr.range, Sem.run_bind, run_underlying ht, Result.andThen_ok, getObj, Sem.run, hb, Sem.run_pure, newObj]
    rfl
  · rw [Below.heap_alloc w _ m hlt]; exact hb

theorem filter_push_lt (es : List MapEntry) (seen : Array Nat) (e : MapEntry) (he : e ∈ es) (hns : seen.contains e.born = false) :
    (es.filter fun x => !(seen.push e.born).contains x.born).length < (es.filter fun x => !seen.contains x.born).length := by
  induction es with
  | nil => simp at he
  | cons x es ih =>
    have hc : ∀ y : Nat, (seen.push e.born).contains y = (seen.contains y || y == e.born) := by
      intro y; rw [Bool.eq_iff_iff]; simp [Array.contains_iff_mem]
    have hle : (es.filter fun x => !(seen.push e.born).contains x.born).length ≤ (es.filter fun x => !seen.contains x.born).length := by
      clear ih he
      induction es with
      | nil => simp
      | cons y es ih2 =>
        simp only [List.filter_cons, hc]
        by_cases h1 : seen.contains y.born = true <;> by_cases h2 : (y.born == e.born) = true <;> simp_all <;> omega
    rcases List.mem_cons.1 he with rfl | he
    · simp only [List.filter_cons, hc, hns]
      simp only [BEq.rfl, Bool.or_true, Bool.not_true, Bool.false_eq_true, if_false, Bool.not_false, if_true, List.length_cons]
      simp only [hc] at hle
      omega
    · have := ih he
      simp only [List.filter_cons]
      simp only [hc] at this ⊢
      by_cases h1 : seen.contains x.born = true <;> by_cases h2 : (x.born == e.born) = true <;> simp_all <;> omega

theorem run_next {P : Program} (ty : TypeId) {w : World} {r m : Nat} {K V : Value → Prop} {s : Bool} (hit : Iter w r m K V s) :
    ((Instr.next (.pointer (some ⟨r, 0, none⟩)) false ty).run P w = .ok (.tuple #[.bool false]) w) ∨
    (∃ kv vv w', K kv ∧ V vv ∧ (Instr.next (.pointer (some ⟨r, 0, none⟩)) false ty).run P w = .ok (.tuple #[.bool true, kv, vv]) w' ∧ Iter w' r m K V true ∧ itLeft w' r m < itLeft w r m ∧
      w'.heap.size = w.heap.size ∧ (∀ c, c ≠ r → w'.heap[c]? = w.heap[c]?) ∧ (∀ B, B ≤ r → Below B w w')) := by
  obtain ⟨es, clock, seen, hr, hm, he, hst⟩ := hit
  have hrm : r ≠ m := by rintro rfl; rw [hr] at hm; cases hm
  have hrlt := (Array.getElem?_eq_some_iff.1 hr).1
  have hall : (!seen.isEmpty && !es.isEmpty && es.all (fun e => decide (e.born ≥ clock))) = false := by
    by_cases hes : es.isEmpty = true
    · simp [hes]
    · have hne : 0 < es.size := by
        rcases Nat.eq_zero_or_pos es.size with h | h
        · exact absurd (Array.isEmpty_iff_size_eq_zero.2 h) hes
        · exact h
      have h0 := (he es[0] (by simp)).1
      have : es.all (fun e => decide (e.born ≥ clock)) = false := by
        rw [Bool.eq_false_iff]; intro hh
        rw [Array.all_eq_true] at hh
        have := hh 0 hne
        simp at this; omega
      rw [this]; simp
  have hold : (es.filter fun e => !seen.contains e.born).filter (fun e => decide (e.born < clock)) = es.filter fun e => !seen.contains e.born := by
    rw [Array.filter_eq_self]
    intro e hee
    have := (Array.mem_filter.1 hee).1
    simpa using (he e (by simpa using this)).1
  have hnew : (es.filter fun e => !seen.contains e.born).filter (fun e => decide (e.born ≥ clock)) = #[] := by
    rw [Array.filter_eq_empty_iff]
    intro e hee
    have := (Array.mem_filter.1 hee).1
    have := (he e (by simpa using this)).1
    simp; omega
  generalize hL : es.filter (fun e => !seen.contains e.born) = L at hold hnew
  have hrun : ∀ (k : Value → Sem Value), True := fun _ => trivial
  by_cases hemp : L.isEmpty = true
  · refine .inl ?_
    have hL0 : L = #[] := by simpa using hemp
    subst hL0
    simp only [Instr.next, Sem.run_bind, Result.andThen_ok, getObj, Sem.run, hr, hm, hall, Bool.false_eq_true, if_false, Sem.run_pure, hL, choose, hold, hnew]
    simp [Question.forced, Sem.run]
  · refine .inr ?_
    have hLpos : 0 < L.size := by
      rcases Nat.eq_zero_or_pos L.size with h | h
      · exact absurd (Array.isEmpty_iff_size_eq_zero.2 h) hemp
      · exact h
    -- whichever entry the tape names
    have step : ∀ (i : Nat) (w0 : World), i < L.size → w0.heap = w.heap → w0.os = w.os → w0.tape = w.tape → w0.output = w.output → ∃ kv vv w', K kv ∧ V vv ∧
        ((match (((#[] : Array (Option MapEntry)) ++ (L ++ #[]).map some)[i]? : Option (Option MapEntry)) with
          | some (some e) => do
            setObj r (.mapIter (some m) clock (seen.push e.born) clock)
            pure (.tuple #[.bool true, e.key, e.val])
          | some none => pure (.tuple #[.bool false])
          | none => stuck "Next: no such candidate" : Sem Value).run P w0 = .ok (.tuple #[.bool true, kv, vv]) w') ∧ Iter w' r m K V true ∧ itLeft w' r m < itLeft w r m ∧
        w'.heap.size = w.heap.size ∧ (∀ c, c ≠ r → w'.heap[c]? = w.heap[c]?) ∧ (∀ B, B ≤ r → Below B w w') := by
      intro i w0 hi hw0 hos htp hout
      have hget : (((#[] : Array (Option MapEntry)) ++ (L ++ #[]).map some)[i]? : Option (Option MapEntry)) = some (some L[i]) := by
        simp [hi]
      have hmem : L[i] ∈ L := Array.getElem_mem hi
      have hmem2 : ∀ x, x ∈ L → x ∈ es ∧ (!seen.contains x.born) = true := fun x hx => by rw [← hL, Array.mem_filter] at hx; exact hx
      obtain ⟨hme, hns⟩ := hmem2 _ hmem
      have hfacts := he L[i] (by simpa using hme)
      have hnh : ∀ c, c ≠ r → (w0.heap.setIfInBounds r (.mapIter (some m) clock (seen.push L[i].born) clock))[c]? = w.heap[c]? := by
        intro c hc; rw [hw0]; simp [Ne.symm hc]
      refine ⟨L[i].key, L[i].val, { w0 with heap := w0.heap.setIfInBounds r (.mapIter (some m) clock (seen.push L[i].born) clock) }, hfacts.2.1, hfacts.2.2, ?_, ?_, ?_, ?_, hnh, ?_⟩
      · rw [hget]
        simp only [setObj, Sem.run_bind, Sem.run, hw0, hr, Result.andThen_ok, Sem.run_pure]
      · refine ⟨es, clock, seen.push L[i].born, ?_, (hnh m (Ne.symm hrm)).trans hm, he, fun _ => ⟨L[i], by simpa using hme, by simp⟩⟩
        show (w0.heap.setIfInBounds r _)[r]? = _
        rw [hw0]; simp [hrlt]
      · have e1 : (w0.heap.setIfInBounds r (.mapIter (some m) clock (seen.push L[i].born) clock))[r]? = some (.mapIter (some m) clock (seen.push L[i].born) clock) := by rw [hw0]; simp [hrlt]
        unfold itLeft
        simp only [e1, hnh m (Ne.symm hrm), hr, hm]
        have := filter_push_lt es.toList seen L[i] (by simpa using hme) (by simpa using hns)
        have e2 : ∀ p : MapEntry → Bool, (es.filter p).size = (es.toList.filter p).length := fun p => by rw [← Array.toList_filter, Array.length_toList]
        rw [e2, e2]; exact this
      · show (w0.heap.setIfInBounds r _).size = _
        rw [hw0]; simp
      · intro B hB
        exact ⟨hos, htp, hout, by show _ ≤ (w0.heap.setIfInBounds r _).size; rw [hw0]; simp, fun c hc => hnh c (by omega)⟩
    by_cases hf : (Question.mapNext ((#[] : Array (Option MapEntry)) ++ (L ++ #[]).map some).size).forced = true
    · obtain ⟨kv, vv, w', h1, h2, h3, h4⟩ := step 0 w hLpos rfl rfl rfl rfl
      refine ⟨kv, vv, w', h1, h2, ?_, h4⟩
      rw [← h3]
      simp only [Instr.next, Sem.run_bind, Result.andThen_ok, getObj, Sem.run, hr, hm, hall, Bool.false_eq_true, if_false, Sem.run_pure, hL, choose, hold, hnew, hemp, hf, if_true]
      rfl
    · have hi : (Question.mapNext ((#[] : Array (Option MapEntry)) ++ (L ++ #[]).map some).size).cut (w.tape w.drawn (.mapNext ((#[] : Array (Option MapEntry)) ++ (L ++ #[]).map some).size)) < L.size := by
        have hsz : ((#[] : Array (Option MapEntry)) ++ (L ++ #[]).map some).size = L.size := by simp
        rw [hsz]
        exact Nat.mod_lt _ hLpos
      obtain ⟨kv, vv, w', h1, h2, h3, h4⟩ := step _ { w with drawn := w.drawn + 1 } hi rfl rfl rfl rfl
      refine ⟨kv, vv, w', h1, h2, ?_, h4⟩
      rw [← h3]
      simp only [Instr.next, Sem.run_bind, Result.andThen_ok, getObj, Sem.run, hr, hm, hall, Bool.false_eq_true, if_false, Sem.run_pure, hL, choose, hold, hnew, hemp, hf]
      rfl

theorem run_entry {P : Program} {w : World} {r m : Nat} {K V : Value → Prop} (hit : Iter w r m K V true) :
    ∃ kv vv, K kv ∧ V vv ∧ (Instr.entry (.pointer (some ⟨r, 0, none⟩))).run P w = .ok (.tuple #[kv, vv]) w := by
  obtain ⟨es, clock, seen, hr, hm, he, hst⟩ := hit
  obtain ⟨e, hee, hb⟩ := hst rfl
  cases hfd : es.find? (fun x => x.born == e.born) with
  | none =>
    rw [Array.find?_eq_none] at hfd
    exact absurd (hfd e (by simpa using hee)) (by simp)
  | some e' =>
    have hm' := Array.mem_of_find?_eq_some hfd
    refine ⟨e'.key, e'.val, (he e' (by simpa using hm')).2.1, (he e' (by simpa using hm')).2.2, ?_⟩
    simp only [Instr.entry, Sem.run_bind, Result.andThen_ok, getObj, Sem.run, hr, hm, hb, Sem.run_pure, bne_self_eq_false, Bool.false_eq_true, if_false, hfd]
end Go.Proofs.Exp
namespace Go.Proofs.Exp
open Go.RowKit
set_option linter.unusedVariables false
section
variable {P : Program} {ops : Array Oper} {rest : List Oper} {o : Oper} {a : Act} {w : World} {Q : Exit → Act → World → Prop}
theorem wpList_rangem (hgd : o.guard = none) (t : TypeId) (x : Operand) (ho : o.op = .range t x) (kt et : TypeId) (ht : P.underlying t = some (.map kt et))
    (m : Nat) (hx : a.eval x = .map (some m)) (K V : Value → Prop) (n : Nat) (hm : MapHas w m K V n)
    (h : ∀ w', Iter w' w.heap.size m K V false → w'.heap.size = w.heap.size + 1 → Below w.heap.size w w' → wpList P ops Q rest (a.put o.dst (.pointer (some ⟨w.heap.size, 0, none⟩))) w') :
    wpList P ops Q (o :: rest) a w := by
  refine wpList_plain hgd fun K' hK' => ?_
  unfold Oper.wp
  obtain ⟨w', hr, h1, h2, h3⟩ := run_range (P := P) ht hm
  simp only [execOp, ho, hx, Sem.run_bind, hr, Result.andThen_ok, Sem.run_pure, Oper.upon]
  exact hK' _ _ (h w' h1 h2 h3)
theorem wpList_nextm (hgd : o.guard = none) (x : Operand) (ho : o.op = .next x false) (r m : Nat) (hx : a.eval x = .pointer (some ⟨r, 0, none⟩)) (K V : Value → Prop) (s : Bool) (hit : Iter w r m K V s)
    (h0 : wpList P ops Q rest (a.put o.dst (.tuple #[.bool false])) w)
    (h : ∀ kv vv w', K kv → V vv → Iter w' r m K V true → itLeft w' r m < itLeft w r m → w'.heap.size = w.heap.size → (∀ c, c ≠ r → w'.heap[c]? = w.heap[c]?) → (∀ B, B ≤ r → Below B w w') →
      wpList P ops Q rest (a.put o.dst (.tuple #[.bool true, kv, vv])) w') : wpList P ops Q (o :: rest) a w := by
  refine wpList_plain hgd fun K' hK' => ?_
  unfold Oper.wp
  rcases run_next (P := P) o.type hit with hr | ⟨kv, vv, w', h1, h2, hr, h3, h4, h5, h6, h7⟩
  · simp only [execOp, ho, hx, Sem.run_bind, hr, Result.andThen_ok, Sem.run_pure, Oper.upon]
    exact hK' _ _ h0
  · simp only [execOp, ho, hx, Sem.run_bind, hr, Result.andThen_ok, Sem.run_pure, Oper.upon]
    exact hK' _ _ (h kv vv w' h1 h2 h3 h4 h5 h6 h7)
theorem wpList_entrym (hgd : o.guard = none) (x : Operand) (ho : o.op = .entry x) (r m : Nat) (hx : a.eval x = .pointer (some ⟨r, 0, none⟩)) (K V : Value → Prop) (hit : Iter w r m K V true)
    (h : ∀ kv vv, K kv → V vv → wpList P ops Q rest (a.put o.dst (.tuple #[kv, vv])) w) : wpList P ops Q (o :: rest) a w := by
  refine wpList_plain hgd fun K' hK' => ?_
  unfold Oper.wp
  obtain ⟨kv, vv, h1, h2, hr⟩ := run_entry (P := P) hit
  simp only [execOp, ho, hx, Sem.run_bind, hr, Result.andThen_ok, Sem.run_pure, Oper.upon]
  exact hK' _ _ (h kv vv h1 h2)
theorem wpList_range_nil (hgd : o.guard = none) (t : TypeId) (x : Operand) (ho : o.op = .range t x) (kt et : TypeId) (ht : P.underlying t = some (.map kt et)) (hx : a.eval x = .map none)
    (h : wpList P ops Q rest (a.put o.dst (.pointer (some ⟨w.heap.size, 0, none⟩))) (w.alloc (.mapIter none 0 #[] 0))) : wpList P ops Q (o :: rest) a w := by
  refine wpList_plain hgd fun K' hK' => ?_
  unfold Oper.wp
  have hr : (Instr.range t (.map none)).run P w = .ok (.pointer (some ⟨w.heap.size, 0, none⟩)) (w.alloc (.mapIter none 0 #[] 0)) := by
    simp only [Instr.range, Sem.run_bind, run_underlying ht, Result.andThen_ok, Sem.run, Sem.run_pure, newObj]
    rfl
  simp only [execOp, ho, hx, Sem.run_bind, hr, Result.andThen_ok, Sem.run_pure, Oper.upon]
  exact hK' _ _ h
theorem wpList_next_nil (hgd : o.guard = none) (x : Operand) (ho : o.op = .next x false) (r : Nat) (hx : a.eval x = .pointer (some ⟨r, 0, none⟩)) (s l : Nat) (seen : Array Nat)
    (hr : w.heap[r]? = some (.mapIter none s seen l))
    (h : wpList P ops Q rest (a.put o.dst (.tuple #[.bool false])) w) : wpList P ops Q (o :: rest) a w := by
  refine wpList_plain hgd fun K' hK' => ?_
  unfold Oper.wp
  have hrr : (Instr.next (.pointer (some ⟨r, 0, none⟩)) false o.type).run P w = .ok (.tuple #[.bool false]) w := by
    simp only [Instr.next, Sem.run_bind, Result.andThen_ok, getObj, Sem.run, hr, Sem.run_pure]
  simp only [execOp, ho, hx, Sem.run_bind, hrr, Result.andThen_ok, Sem.run_pure, Oper.upon]
  exact hK' _ _ h
end

/-! ### open addressing ends -/
def up64 (x : Int) : Int := IntKind.u64.wrap (x + 1)
def iter64 : Nat → Int → Int
  | 0, x => x
  | n + 1, x => iter64 n (up64 x)
theorem iter64_succ (n : Nat) (x : Int) : iter64 (n + 1) x = up64 (iter64 n x) := by
  induction n generalizing x with
  | zero => rfl
  | succ n ih => exact ih (up64 x)
theorem wrap_u64 (x : Int) : IntKind.u64.wrap x = x % 18446744073709551616 := by
  have h : (IntKind.u64.signed = true) = False := by simp [IntKind.signed]
  have h2 : (2 : Int) ^ IntKind.u64.bits = 18446744073709551616 := by decide
  simp [IntKind.wrap, h, h2]
theorem iter64_form (n : Nat) (x : Int) : ∀ k, k ≤ n → iter64 (k + 1) x = (x + 1 + k) % 18446744073709551616 := by
  intro k
  induction k with
  | zero => intro _; simp [iter64, up64, wrap_u64]
  | succ k ih =>
    intro hk
    rw [iter64_succ, ih (by omega)]
    simp only [up64, wrap_u64]
    omega
theorem nodup_le {α : Type} [DecidableEq α] : ∀ (l m : List α), l.Nodup → (∀ x ∈ l, x ∈ m) → l.length ≤ m.length
  | [], m, _, _ => by simp
  | x :: l, m, hn, h => by
    have hx := h x (by simp)
    have h2 := nodup_le l (m.erase x) (List.nodup_cons.1 hn).2 (fun y hy => by
      have hne : y ≠ x := by rintro rfl; exact (List.nodup_cons.1 hn).1 hy
      exact (List.mem_erase_of_ne hne).2 (h y (by simp [hy])))
    rw [List.length_erase_of_mem hx] at h2
    have := List.length_pos_of_mem hx
    simp only [List.length_cons]
    omega
/-- Among the hashes from one on there is one that is no key. -/
theorem probe_ends (K : List Int) (x : Int) (hK : K.length < 1000000000000000000) : ∃ d, d ≤ K.length + 1 ∧ iter64 d x ∉ K := by
  refine Classical.byContradiction fun hno => ?_
  have hall : ∀ d, d ≤ K.length + 1 → iter64 d x ∈ K := fun d hd => Classical.byContradiction fun h => hno ⟨d, hd, h⟩
  have hf := iter64_form (K.length + 1) x
  have := nodup_le ((List.range (K.length + 1)).map fun k => iter64 (k + 1) x) K (by
    rw [List.nodup_iff_pairwise_ne, List.pairwise_map]
    refine List.Pairwise.imp_of_mem ?_ (List.pairwise_lt_range)
    intro i j hi hj hij
    simp only [List.mem_range] at hi hj
    rw [hf i (by omega), hf j (by omega)]
    omega) (by
    intro y hy
    obtain ⟨k, hk, rfl⟩ := List.mem_map.1 hy
    exact hall _ (by simp only [List.mem_range] at hk; omega))
  simp only [List.length_map, List.length_range] at this
  omega

def dist (K : List Int) : Nat → Int → Nat
  | 0, _ => 0
  | f + 1, x => if x ∈ K then dist K f (up64 x) + 1 else 0
theorem dist_stable (K : List Int) : ∀ (f : Nat) (d : Nat) (x : Int), d < f → iter64 d x ∉ K → dist K (f + 1) x = dist K f x
  | 0, d, x, h, _ => by omega
  | f + 1, d, x, h, hd => by
    show (if x ∈ K then dist K (f + 1) (up64 x) + 1 else 0) = (if x ∈ K then dist K f (up64 x) + 1 else 0)
    by_cases hx : x ∈ K
    · rw [if_pos hx, if_pos hx]
      cases d with
      | zero => exact absurd hx hd
      | succ d => rw [dist_stable K f d (up64 x) (by omega) hd]
    · rw [if_neg hx, if_neg hx]
theorem dist_less (K : List Int) (f d : Nat) (x : Int) (h : d < f) (hd : iter64 d x ∉ K) (hx : x ∈ K) : dist K f (up64 x) < dist K f x := by
  cases d with
  | zero => exact absurd hx hd
  | succ d =>
    cases f with
    | zero => omega
    | succ f =>
      have h1 : dist K (f + 1) x = dist K f (up64 x) + 1 := by
        show (if x ∈ K then dist K f (up64 x) + 1 else 0) = _
        rw [if_pos hx]
      rw [h1, dist_stable K f d (up64 x) (by omega) hd]
      omega
def keyInts (es : Array MapEntry) : List Int := es.toList.map fun e => intOf e.key
theorem mem_keyInts {es : Array MapEntry} {e : MapEntry} (he : e ∈ es.toList) {k : Int} {q : IntKind} (hk : e.key = .int q k) : k ∈ keyInts es :=
  List.mem_map.2 ⟨e, he, by rw [hk]; rfl⟩
theorem keyInts_length (es : Array MapEntry) : (keyInts es).length = es.size := by simp [keyInts]
/-- Where a hash stands in the search for a place. -/
def Probe (es : Array MapEntry) (x : Int) : Prop := ∃ d, d ≤ es.size + 1 ∧ iter64 d x ∉ keyInts es
theorem Probe.start (es : Array MapEntry) (h : es.size ≤ 140737488351233) (x : Int) : Probe es x := by
  obtain ⟨d, hd, hn⟩ := probe_ends (keyInts es) x (by rw [keyInts_length]; omega)
  rw [keyInts_length] at hd
  exact ⟨d, hd, hn⟩
theorem Probe.next {es : Array MapEntry} {x : Int} (h : Probe es x) (hx : x ∈ keyInts es) : Probe es (up64 x) ∧ dist (keyInts es) (es.size + 2) (up64 x) < dist (keyInts es) (es.size + 2) x := by
  obtain ⟨d, hd, hn⟩ := h
  refine ⟨?_, dist_less _ _ d x (by omega) hn hx⟩
  cases d with
  | zero => exact absurd hx hn
  | succ d => exact ⟨d, by omega, hn⟩
end Go.Proofs.Exp
