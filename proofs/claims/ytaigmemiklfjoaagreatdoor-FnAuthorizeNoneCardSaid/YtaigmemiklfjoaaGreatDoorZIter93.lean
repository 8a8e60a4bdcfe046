/- Part of the proof of FnAuthorizeNone: without policies no request is allowed; for every world that comes in. -/
import Derived.Test.YtaigmemiklfjoaaGreatDoorZInT
set_option linter.unusedSimpArgs false
set_option linter.unusedVariables false
set_option linter.unnecessarySimpa false
namespace Go.Proofs.Exp
open Go.RowKit
attribute [local go_sem] Oper.semAt_some
set_option linter.unusedVariables false
section
variable {P : Program} {ops : Array Oper} {rest : List Oper} {o : Oper} {a : Act} {w : World} {Q : Exit → Act → World → Prop} {n' : Nat}
theorem wpListIn_rangem (hgd : o.guard = none) (t : TypeId) (x : Operand) (ho : o.op = .range t x) (kt et : TypeId) (ht : P.underlying t = some (.map kt et))
    (m : Nat) (hx : a.eval x = .map (some m)) (K V : Value → Prop) (n : Nat) (hm : MapHas w m K V n)
    (h : ∀ w', Iter w' w.heap.size m K V false → w'.heap.size = w.heap.size + 1 → Below w.heap.size w w' → wpListIn Fence.wide n' P ops Q rest (a.put o.dst (.pointer (some ⟨w.heap.size, 0, none⟩))) w') :
    wpListIn Fence.wide n' P ops Q (o :: rest) a w := by
  refine wpListIn_plain hgd fun K' hK' => wp_wide _ ?_
  unfold Oper.wp
  obtain ⟨w', hr, h1, h2, h3⟩ := run_range (P := P) ht hm
  simp only [execOp, ho, hx, Sem.run_bind, hr, Result.andThen_ok, Sem.run_pure, Oper.upon]
  exact hK' _ _ (h w' h1 h2 h3)
theorem wpListIn_range_nil (hgd : o.guard = none) (t : TypeId) (x : Operand) (ho : o.op = .range t x) (kt et : TypeId) (ht : P.underlying t = some (.map kt et)) (hx : a.eval x = .map none)
    (h : wpListIn Fence.wide n' P ops Q rest (a.put o.dst (.pointer (some ⟨w.heap.size, 0, none⟩))) (w.alloc (.mapIter none 0 #[] 0))) : wpListIn Fence.wide n' P ops Q (o :: rest) a w := by
  refine wpListIn_plain hgd fun K' hK' => wp_wide _ ?_
  unfold Oper.wp
  have hr : (Instr.range t (.map none)).run P w = .ok (.pointer (some ⟨w.heap.size, 0, none⟩)) (w.alloc (.mapIter none 0 #[] 0)) := by
    simp only [Instr.range, Sem.run_bind, run_underlying ht, Result.andThen_ok, Sem.run, Sem.run_pure, newObj]
    rfl
  simp only [execOp, ho, hx, Sem.run_bind, hr, Result.andThen_ok, Sem.run_pure, Oper.upon]
  exact hK' _ _ h
theorem wpListIn_next_nil (hgd : o.guard = none) (x : Operand) (ho : o.op = .next x false) (r : Nat) (hx : a.eval x = .pointer (some ⟨r, 0, none⟩)) (s l : Nat) (seen : Array Nat)
    (hr : w.heap[r]? = some (.mapIter none s seen l))
    (h : wpListIn Fence.wide n' P ops Q rest (a.put o.dst (.tuple #[.bool false])) w) : wpListIn Fence.wide n' P ops Q (o :: rest) a w := by
  refine wpListIn_plain hgd fun K' hK' => wp_wide _ ?_
  unfold Oper.wp
  have hrr : (Instr.next (.pointer (some ⟨r, 0, none⟩)) false o.type).run P w = .ok (.tuple #[.bool false]) w := by
    simp only [Instr.next, Sem.run_bind, Result.andThen_ok, getObj, Sem.run, hr, Sem.run_pure]
  simp only [execOp, ho, hx, Sem.run_bind, hrr, Result.andThen_ok, Sem.run_pure, Oper.upon]
  exact hK' _ _ h
theorem wpListIn_nextm (hgd : o.guard = none) (x : Operand) (ho : o.op = .next x false) (r m : Nat) (hx : a.eval x = .pointer (some ⟨r, 0, none⟩)) (K V : Value → Prop) (s : Bool) (hit : Iter w r m K V s)
    (h0 : wpListIn Fence.wide n' P ops Q rest (a.put o.dst (.tuple #[.bool false])) w)
    (h : ∀ kv vv w', K kv → V vv → Iter w' r m K V true → itLeft w' r m < itLeft w r m → w'.heap.size = w.heap.size → (∀ c, c ≠ r → w'.heap[c]? = w.heap[c]?) → (∀ B, B ≤ r → Below B w w') →
      wpListIn Fence.wide n' P ops Q rest (a.put o.dst (.tuple #[.bool true, kv, vv])) w') : wpListIn Fence.wide n' P ops Q (o :: rest) a w := by
  refine wpListIn_plain hgd fun K' hK' => wp_wide _ ?_
  unfold Oper.wp
  rcases run_next (P := P) o.type hit with hr | ⟨kv, vv, w', h1, h2, hr, h3, h4, h5, h6, h7⟩
  · simp only [execOp, ho, hx, Sem.run_bind, hr, Result.andThen_ok, Sem.run_pure, Oper.upon]
    exact hK' _ _ h0
  · simp only [execOp, ho, hx, Sem.run_bind, hr, Result.andThen_ok, Sem.run_pure, Oper.upon]
    exact hK' _ _ (h kv vv w' h1 h2 h3 h4 h5 h6 h7)
theorem wpListIn_entrym (hgd : o.guard = none) (x : Operand) (ho : o.op = .entry x) (r m : Nat) (hx : a.eval x = .pointer (some ⟨r, 0, none⟩)) (K V : Value → Prop) (hit : Iter w r m K V true)
    (h : ∀ kv vv, K kv → V vv → wpListIn Fence.wide n' P ops Q rest (a.put o.dst (.tuple #[kv, vv])) w) : wpListIn Fence.wide n' P ops Q (o :: rest) a w := by
  refine wpListIn_plain hgd fun K' hK' => wp_wide _ ?_
  unfold Oper.wp
  obtain ⟨kv, vv, h1, h2, hr⟩ := run_entry (P := P) hit
  simp only [execOp, ho, hx, Sem.run_bind, hr, Result.andThen_ok, Sem.run_pure, Oper.upon]
  exact hK' _ _ (h kv vv h1 h2)
end

/-- What a round of a loop over an iterator keeps: the iterator's own blocks (from N on) and the map. -/
structure RoundKeeps (N m : Nat) (W W' : World) : Prop where
  size : W.heap.size ≤ W'.heap.size
  own : ∀ c, N ≤ c → c < W.heap.size → W'.heap[c]? = W.heap[c]?
  map : W'.heap[m]? = W.heap[m]?

def YieldOK (l N m : Nat) (J : World → Prop) (v : Value) (W : World) : Prop :=
  YieldAt Fence.wide 0 Tryz.prog l #[v] W fun e W' => e = .returned (.bool true) ∧ J W' ∧ RoundKeeps N m W W'

def IterPost (J : World → Prop) (e : Ending) (W' : World) : Prop := e = .returned (.tuple #[]) ∧ J W'
set_option maxRecDepth 10000 in
set_option maxHeartbeats 800000 in
theorem values_iter (l mb m N : Nat) (K V : Value → Prop) (sz : Nat) (J : World → Prop) (W0 : World) (hN : N = W0.heap.size) (hmN : m < N)
    (hJ : ∀ W W', Below N W W' → J W → J W') (hY : ∀ v W, V v → J W → N ≤ W.heap.size → YieldOK l N m J v W)
    (hmb : W0.cell? ⟨mb, 0, none⟩ = some (.map (some m))) (hm : MapHas W0 m K V sz) (h0 : J W0) :
    CallsIn Fence.wide 0 Tryz.prog 93 #[.func (.yield l) #[] #[], .pointer (some ⟨mb, 0, none⟩)] W0 (IterPost J) := by
  subst hN
  refine callsIn_of_wp Tryz.func93 rfl trivial ?_ rfl
  simp only [Tryz.ntmps93, List.size_toArray, List.length_cons, List.length_nil, Nat.reduceAdd, Nat.reduceSub, Array.replicate_succ, Array.replicate_zero, List.push_toArray, List.append_toArray, List.nil_append, List.cons_append]
  gi_wp2_with ((with_reducible show wpListIn _ _ _ _ _ ({ dst := _, op := Op.range _ _, type := _, pos := _, after := _, guard := _ } :: _) _ _); refine wpListIn_rangem rfl 178 _ rfl 50 44 u178T m rfl K V sz hm ?_)
  intro w1 hit hsz hb1
  have hj1 := hJ _ _ hb1 h0
  gi_wp2_with fail
  gi_loopw [7] (fun _ wr => ∃ s, Iter wr W0.heap.size m K V s ∧ J wr ∧ W0.heap.size + 1 ≤ wr.heap.size) (fun _ wr => itLeft wr W0.heap.size m)
  case atStart => exact ⟨_, hit, hj1, by omega⟩
  case round =>
    obtain ⟨s, hit2, hj2, hs2⟩ := hrel
    gi_wp2_with ((with_reducible show wpListIn _ _ _ _ _ ({ dst := _, op := Op.next _ _, type := _, pos := _, after := _, guard := _ } :: _) _ _); refine wpListIn_nextm rfl _ rfl _ m rfl K V s hit2 ?_ ?_)
    · gi_wp2
      refine bodyPost_ret (results_none rfl _ _ _) rfl ?_
      exact ⟨rfl, hj2⟩
    · intro kv vv w2 hk hv hit3 hlt hs3 hoth hbl
      have hj3 := hJ _ _ (hbl _ (Nat.le_refl _)) hj2
      gi_wp2_with ((with_reducible show wpListIn _ _ _ _ _ ({ dst := _, op := Op.entry _, type := _, pos := _, after := _, guard := _ } :: _) _ _); refine wpListIn_entrym rfl _ rfl _ m rfl K V hit3 ?_)
      intro kv2 vv2 hk2 hv2
      obtain ⟨fn, tmps, assign, body, hy, hR⟩ := hY vv2 w2 hv2 hj3 (by omega)
      gi_wp2_with fail
      refine ⟨rfl, hR.mono ?_⟩
      rintro e W3 ⟨rfl, hj4, hrk⟩
      obtain ⟨hit4, hle⟩ := hit3.kept (hrk.own _ (Nat.le_refl _) (by omega)) hrk.map
      have hs4 := hrk.size
      gi_wp2
      go_roundw
      case rel => exact ⟨_, hit4, hj4, by omega⟩
      case measure => rw [hle]; exact hlt

set_option maxRecDepth 10000 in
set_option maxHeartbeats 800000 in
theorem values_iter_nil (l mb : Nat) (J : World → Prop) (W0 : World) (hJ : ∀ W W', Below W0.heap.size W W' → J W → J W')
    (hmb : W0.cell? ⟨mb, 0, none⟩ = some (.map none)) (h0 : J W0) :
    CallsIn Fence.wide 0 Tryz.prog 93 #[.func (.yield l) #[] #[], .pointer (some ⟨mb, 0, none⟩)] W0 (IterPost J) := by
  refine callsIn_of_wp Tryz.func93 rfl trivial ?_ rfl
  simp only [Tryz.ntmps93, List.size_toArray, List.length_cons, List.length_nil, Nat.reduceAdd, Nat.reduceSub, Array.replicate_succ, Array.replicate_zero, List.push_toArray, List.append_toArray, List.nil_append, List.cons_append]
  gi_wp2_with ((with_reducible show wpListIn _ _ _ _ _ ({ dst := _, op := Op.range _ _, type := _, pos := _, after := _, guard := _ } :: _) _ _); refine wpListIn_range_nil rfl 178 _ rfl 50 44 u178T rfl ?_)
  have hj1 := hJ _ _ (below_refl_alloc W0 (.mapIter none 0 #[] 0)) h0
  go_frame
  gi_loopw [7] (fun _ wr => wr = W0.alloc (.mapIter none 0 #[] 0)) (fun _ wr => 0)
  case atStart => rfl
  case round =>
    subst hrel
    gi_wp2_with ((with_reducible show wpListIn _ _ _ _ _ ({ dst := _, op := Op.next _ _, type := _, pos := _, after := _, guard := _ } :: _) _ _); refine wpListIn_next_nil rfl _ rfl _ rfl 0 0 #[] (heap_alloc_new _ _) ?_)
    refine bodyPost_ret (results_none rfl _ _ _) rfl ?_
    exact ⟨rfl, hj1⟩
set_option maxHeartbeats 400000 in
theorem maps_values (m : Option Nat) (w : World) : Calls Tryz.prog 75 #[.map m] w fun e w' => e = .returned (.func (.func 93) #[] #[.pointer (some ⟨w.heap.size, 0, none⟩)]) ∧ w' = w.alloc (.cells #[.map m] 178) := by
  go_enter Tryz.func75, Tryz.ntmps75
  go_wp2
  go_ret
  exact ⟨rfl, rfl⟩
end Go.Proofs.Exp
namespace Go.Proofs.Exp
open Go.RowKit
set_option linter.unusedVariables false
def HasU64 (w : World) (hb : Nat) : Prop := ∃ x : Int, w.heap[hb]? = some (.cells #[.int .u64 x] 50 (0, 0))
/-- From a to b nothing has turned but the one number at block hb, and new blocks. -/
structure Ex (hb : Nat) (a b : World) : Prop where
  os : b.os = a.os
  tape : b.tape = a.tape
  output : b.output = a.output
  size : a.heap.size ≤ b.heap.size
  other : ∀ c, c ≠ hb → c < a.heap.size → b.heap[c]? = a.heap[c]?
  cell : HasU64 a hb → HasU64 b hb
theorem Ex.refl (hb : Nat) (a : World) : Ex hb a a := ⟨rfl, rfl, rfl, Nat.le_refl _, fun _ _ _ => rfl, id⟩
theorem Ex.trans {hb : Nat} (a b c : World) (h : Ex hb a b) (k : Ex hb b c) : Ex hb a c :=
  ⟨k.os.trans h.os, k.tape.trans h.tape, k.output.trans h.output, Nat.le_trans h.size k.size, fun i hi hl => (k.other i hi (Nat.lt_of_lt_of_le hl h.size)).trans (h.other i hi hl), fun x => k.cell (h.cell x)⟩
theorem Ex.below {hb : Nat} {a b : World} (h : Below a.heap.size a b) : Ex hb a b :=
  ⟨h.os, h.tape, h.output, h.size, fun c _ hl => h.block c hl, fun ⟨x, hx⟩ => ⟨x, (h.block hb (Array.getElem?_eq_some_iff.1 hx).1).trans hx⟩⟩
theorem Ex.set {hb : Nat} {a : World} (h : HasU64 a hb) (x : Int) : Ex hb a (a.setCell ⟨hb, 0, none⟩ (.int .u64 x)) ∧ HasU64 (a.setCell ⟨hb, 0, none⟩ (.int .u64 x)) hb := by
  obtain ⟨y, hy⟩ := h
  have hl := (Array.getElem?_eq_some_iff.1 hy).1
  have hn : HasU64 (a.setCell ⟨hb, 0, none⟩ (.int .u64 x)) hb := ⟨x, by simp only [World.setCell, Array.getElem?_modify, if_true, hy]; rfl⟩
  exact ⟨⟨rfl, rfl, rfl, by simp [World.setCell], fun c hc hl => Below.heap_setCell _ _ _ _ hc, fun _ => hn⟩, hn⟩

/-- What stands while the loop over a set's values runs. -/
structure InLoop (wr : World) (L : Loop) (W : World) : Prop where
  below : Below wr.heap.size wr W
  cell : HasU64 W wr.heap.size
  defer : W.heap[wr.heap.size + 2]? = some (.deferred (some []))
  loop : W.heap[wr.heap.size + 2 + 1]? = some (.loop L)
  size : wr.heap.size + 4 ≤ W.heap.size

theorem InLoop.kept {wr : World} {L : Loop} {W W' : World} (hb : Below (wr.heap.size + 4) W W') (h : InLoop wr L W) : InLoop wr L W' := by
  obtain ⟨h1, ⟨x, h2⟩, h3, h4, h5⟩ := h
  exact ⟨h1.trans (hb.mono (by omega)), ⟨x, (hb.block _ (by omega)).trans h2⟩, (hb.block _ (by omega)).trans h3, (hb.block _ (by omega)).trans h4, Nat.le_trans h5 hb.size⟩
theorem heap_last2 (w : World) (o1 o2 : Obj) : ((w.alloc o1).alloc o2).heap[w.heap.size]? = some o1 := by
  rw [Below.heap_alloc _ _ _ (by simp)]; exact heap_alloc_new w o1
theorem InLoop.start (wr : World) (o2 : Obj) (L : Loop) : InLoop wr L ((((wr.alloc (.cells #[.int .u64 0] 50)).alloc o2).alloc (.deferred (some []))).alloc (.loop L)) := by
  refine ⟨((((Below.refl _ wr).alloc (Nat.le_refl _) _).alloc (by simp) _).alloc (by simp; omega) _).alloc (by simp; omega) _, ⟨0, ?_⟩, ?_, ?_, by simp⟩
  · rw [Below.heap_alloc _ _ _ (by simp; omega), Below.heap_alloc _ _ _ (by simp; omega)]
    exact heap_last2 wr _ _
  · have := heap_last2 ((wr.alloc (.cells #[.int .u64 0] 50)).alloc o2) (.deferred (some [])) (.loop L)
    simpa using this
  · have := heap_alloc_new (((wr.alloc (.cells #[.int .u64 0] 50)).alloc o2).alloc (.deferred (some []))) (.loop L)
    simpa using this
end Go.Proofs.Exp
namespace Go.Proofs.Exp
open Go.RowKit
set_option linter.unusedVariables false
attribute [local go_sem] Oper.semAt_some
def VX (X : Value → Prop) (w : World) (v : Value) : Prop := IsVal w w.heap.size v ∧ X v
def SetPost (X : Value → Prop) (w : World) (e : Ending) (w' : World) : Prop :=
  ∃ m h, e = .returned (.agg #[.map m, .int .u64 h]) ∧ Below w.heap.size w w' ∧ (m = none ∨ ∃ b, m = some b ∧ w.heap.size ≤ b ∧ b < w'.heap.size ∧ MapHas w' b KU (VX X w) 140737488351232)
theorem u175T : Tryz.prog.underlying 175 = some (.slice 44) := by kernel_rfl
theorem run_makeMap_n (t kt et : TypeId) (ht : Tryz.prog.underlying t = some (.map kt et)) (n : Nat) (w : World) : (Instr.makeMap t (some (.int .i64 n))).run Tryz.prog w = .ok (.map (some w.heap.size)) (w.alloc (.map #[] 0)) := by
  simp only [Instr.makeMap, Sem.run_bind, run_underlying ht, Result.andThen_ok, asInt, Sem.run_pure, newObj, Sem.run]
  rfl
set_option maxRecDepth 10000 in
theorem run_loadVar180 (b : Nat) (w : World) (v0 v1 : Value) (h0 : w.cell? ⟨b, 0, none⟩ = some v0) (h1 : w.cell? ⟨b, 1, none⟩ = some v1) :
    (loadVar 180 ⟨b, 0, none⟩).run Tryz.prog w = .ok (.agg #[v0, v1]) w := by
  have ha : (isAgg 180).run Tryz.prog w = .ok true w := by kernel_rfl
  have hs : (sizeOf 180).run Tryz.prog w = .ok 2 w := by kernel_rfl
  simp only [loadVar, Sem.run_bind, ha, hs, Result.andThen_ok, Sem.run_pure, if_true]
  simp [loadCells, go_sem, h0, h1]
theorem results_cell {P : Program} {fn : Func} {a : Tmp} {t : TypeId} (h : fn.results = #[.cell a t]) (tmps : Array Value) (p : Addr) (hp : tmps.getD a undef = .pointer (some p)) (w : World) (v : Value) (hv : (loadVar t p).run P w = .ok v w) :
    (results fn tmps).run P w = .ok v w := by
  have hp' : tmps[a]?.getD undef = .pointer (some p) := by simpa using hp
  simpa [results, h, hp', asAddr, go_sem] using hv
theorem setCell_here {w : World} {b o : Nat} {c : Array Value} {e : TypeId} {f : Nat × Nat} (h : w.heap[b]? = some (.cells c e f)) (v : Value) : (w.setCell ⟨b, o, none⟩ v).heap[b]? = some (.cells (c.setIfInBounds o v) e f) := by
  simp [World.setCell, Array.getElem?_modify, h]
set_option maxRecDepth 20000 in
set_option maxHeartbeats 1600000 in
theorem newset_some (X : Value → Prop) (b off n cap : Nat) (vs : Nat → Value) (w : World) (hn : n ≤ 140737488351232) (hbw : b < w.heap.size)
    (hc : ∀ i, i < n → w.cell? ⟨b, off + i, none⟩ = some (vs i)) (hv : ∀ i, i < n → IsVal w w.heap.size (vs i)) (hX : ∀ i, i < n → X (vs i)) :
    Calls Tryz.prog 51 #[.slice (some ⟨b, off, none⟩) n cap] w (SetPost X w) := by
  refine (callsIn_wide (n := 0)).1 (callsIn_of_wp_marks Tryz.func51 rfl trivial ((wpIn_wide).2 ?_))
  simp only [Tryz.ntmps51, List.size_toArray, List.length_cons, List.length_nil, Nat.reduceAdd, Nat.reduceSub, Array.replicate_succ, Array.replicate_zero, List.push_toArray, List.append_toArray, List.nil_append, List.cons_append]
  have hmm := run_makeMap_n 178 50 44 u178T n
  have hne := fun w => run_neq_slice_nil_any w 175 44 (some ⟨b, off, none⟩) n cap 0 0 u175T
  go_wp2_with fail
  obtain ⟨W1, hW1⟩ : ∃ W1, (w.alloc (.cells #[.map none, .int .u64 0] 180)).alloc (.map #[] 0) = W1 := ⟨_, rfl⟩
  rw [hW1]
  have b1 : Below w.heap.size w W1 := by rw [← hW1]; exact (below_refl_alloc w _).alloc (by simp) _
  have s1 : W1.heap.size = w.heap.size + 2 := by rw [← hW1]; simp
  have r1 : W1.heap[w.heap.size]? = some (.cells #[.map none, .int .u64 0] 180 (0, 0)) := by rw [← hW1, Below.heap_alloc _ _ _ (by simp)]; exact heap_alloc_new w _
  have m1 : MapHas W1 (w.heap.size + 1) KU (VX X w) 0 := by
    have := MapHas.made (w.alloc (.cells #[.map none, .int .u64 0] 180)) KU (VX X w)
    rw [hW1] at this; simpa using this
  clear hW1
  go_loopw [18] (fun i wr => ∃ k : Nat, k ≤ n ∧ i = .int .i64 k ∧ Below w.heap.size w wr ∧ wr.heap[w.heap.size]? = some (.cells #[.map none, .int .u64 0] 180 (0, 0)) ∧ w.heap.size + 2 ≤ wr.heap.size ∧ MapHas wr (w.heap.size + 1) KU (VX X w) k) (fun i _ => n - (intOf i).toNat)
  case atStart => exact ⟨0, by omega, rfl, b1, r1, by omega, m1⟩
  case round =>
    clear b1 s1 r1 m1
    obtain ⟨wo, rfl⟩ : ∃ wo : World, wo = wr := ⟨_, rfl⟩
    obtain ⟨k, hk, rfl, hb, hr, hsz, hm⟩ := hrel
    by_cases hlt : k < n
    · have hck := cell_below hb (p := ⟨b, off + k, none⟩) hbw (hc k hlt)
      have hvk := hv k hlt
      have hxk := hX k hlt
      generalize vs k = v at hck hvk hxk
      clear hc hv hX
      go_wp2_with ((with_reducible show wpList _ _ _ ({ dst := _, op := Op.call { callee := Callee.invoke _ _, args := _, argTypes := _ }, type := _, pos := _, after := _, guard := _ } :: _) _ _); refine wpList_inv rfl _ HK _ _ rfl v rfl [] rfl _ (hash_any hvk _) ?_)
      rintro y w1 ⟨x, rfl, hb1⟩
      have hb2 : Below w.heap.size w w1 := hb.trans (hb1.mono (by omega))
      have hm2 := hm.below hb1 (by omega)
      have hr2 : w1.heap[w.heap.size]? = some (.cells #[.map none, .int .u64 0] 180 (0, 0)) := (hb1.block _ (by omega)).trans hr
      have hsz2 : w.heap.size + 2 ≤ w1.heap.size := by have := hb1.size; omega
      clear hb hm hr hsz hb1
      have hm2' := hm2
      obtain ⟨es, clock, hes, hesn, hesv⟩ := hm2'
      go_wp2_with fail
      go_loopw [6] (fun x wr => ∃ y : Int, x = .int .u64 y ∧ Probe es y ∧ Below (w.heap.size + 2) w1 wr) (fun x _ => dist (keyInts es) (es.size + 2) (intOf x))
      case atStart => exact ⟨x, rfl, Probe.start es (by omega) x, Below.refl _ _⟩
      case round =>
        obtain ⟨y, rfl, hpr, hwr⟩ := hrel
        have hm3 := hm2.below hwr (by omega)
        have hes3 : wr.heap[w.heap.size + 1]? = some (.map es clock) := (hwr.block _ (by omega)).trans hes
        have hr3 : wr.heap[w.heap.size]? = some (.cells #[.map none, .int .u64 0] 180 (0, 0)) := (hwr.block _ (by omega)).trans hr2
        have hb3 : Below w.heap.size w wr := hb2.trans (hwr.mono (by omega))
        have hsz3 : w.heap.size + 2 ≤ wr.heap.size := by have := hwr.size; omega
        go_wp2_with (at_lookup; refine wpList_lookm rfl 178 _ _ true rfl 50 44 (.int .u64) u178T u50T (.inr ⟨_, rfl⟩) .nilIface z44 _ rfl (.int .u64 y) rfl es clock hes3 (fun e he => by obtain ⟨k, hk'⟩ := (hesv e he).2.1; rw [hk']; exact pk_u64 y k) ?_ ?_)
        · intro e he hek
          have hev := (hesv e (by simpa using he)).2.2.1
          have hEq := equal_any hvk wr e.val hb3 (by omega) (hev.kept hb3 (Nat.le_refl _))
          have hnx := hpr.next (mem_keyInts (es := es) (e := e) (by simpa using he) hek)
          have HE := Hid.out (p := _) hEq
          clear hEq
          generalize e.val = ev at *
          go_wp2_with ((with_reducible show wpList _ _ _ ({ dst := _, op := Op.call { callee := Callee.invoke _ _, args := _, argTypes := _ }, type := _, pos := _, after := _, guard := _ } :: _) _ _); refine wpList_inv rfl _ "Equal" _ _ rfl v rfl [ev] rfl _ HE ?_)
          rintro y1 w2 ⟨bb, rfl, hb4⟩
          have hW2 : Below (w.heap.size + 2) w1 w2 := hwr.trans (hb4.mono (by omega))
          have hm5 := hm2.below hW2 (by omega)
          have hr5 : w2.heap[w.heap.size]? = some (.cells #[.map none, .int .u64 0] 180 (0, 0)) := (hW2.block _ (by omega)).trans hr2
          have hb5 : Below w.heap.size w w2 := hb2.trans (hW2.mono (by omega))
          have hsz5 : w.heap.size + 2 ≤ w2.heap.size := by have := hW2.size; omega
          clear hb4 HE hes3 hm3 hr3 hb3 hsz3
          cases bb with
          | true =>
            go_wp2
            go_roundw
            case rel => exact ⟨k + 1, by omega, by go_num, hb5, hr5, hsz5, hm5.weaken (by omega) (fun _ h => h) (fun _ h => h)⟩
            case measure => simp [intOf]; omega
          | false =>
            go_wp2
            go_roundw
            case rel => exact ⟨up64 y, rfl, hnx.1, hW2⟩
            case measure => exact hnx.2
        · intro hno
          go_wp2_with (at_mapUpdate; refine wpList_updm rfl 178 _ _ _ rfl 50 44 (.int .u64) u178T u50T (.inr ⟨_, rfl⟩) _ rfl (.int .u64 y) v rfl rfl KU (VX X w) k hm3 (fun k' hk' => by obtain ⟨z, rfl⟩ := hk'; exact pk_u64 y z) (by simp [Instr.sameBits]) ⟨y, rfl⟩ ⟨hvk, hxk⟩ ?_)
          intro w2 hm5 hs5 hoth hcell hfr hbl
          have hr5 : w2.heap[w.heap.size]? = some (.cells #[.map none, .int .u64 0] 180 (0, 0)) := (hoth _ (by omega)).trans hr3
          have hb5 : Below w.heap.size w w2 := hb3.trans (hbl _ (by omega))
          clear hoth hcell hfr hbl hes3 hm3 hr3
          go_wp2
          go_roundw
          case rel => exact ⟨k + 1, by omega, by go_num, hb5, hr5, by omega, hm5⟩
          case measure => simp [intOf]; omega
    · go_wp2_with fail
      refine (maps_values _ _).mono ?_
      rintro e w2 ⟨rfl, rfl⟩
      go_wp2_with fail
      refine wp_rangeFunc_J 93 #[.pointer (some ⟨wo.heap.size + 1, 0, none⟩)] Tryz.f93 rfl Tryz.func93 (by kernel_rfl) (by kernel_rfl) (InLoop wo) ?iter ?rest
      case iter =>
        intro fnid
        unfold rangeWorld
        simp only [World.size_alloc]
        generalize hL : loopRec fnid _ _ _ _ _ = L
        have hlen := hm.lt
        refine (values_iter (wo.heap.size + 2 + 1) (wo.heap.size + 1) (w.heap.size + 1) (wo.heap.size + 4) KU (VX X w) k (InLoop wo L) _ (by simp) (by omega) ?hJ ?hY ?hmb ?hm ?h0).mono ?hpost
        case hJ => exact fun _ _ => InLoop.kept
        case hmb => go_simp
        case hm => exact ((((hm.below (below_refl_alloc wo _) (by omega)).below (below_refl_alloc _ _) (by simp; omega)).below (below_refl_alloc _ _) (by simp; omega)).below (below_refl_alloc _ _) (by simp; omega))
        case h0 => exact InLoop.start wo _ L
        case hpost =>
          rintro e w' ⟨rfl, hj⟩
          exact ⟨⟨_, rfl⟩, hj, hj.loop⟩
        case hY =>
          intro v W hvv hJ hW4
          have hash := hash_any hvv.1
          refine yield_round (hJ.loop.trans (congrArg (fun x => some (Obj.loop x)) hL.symm)) ?_
          gi_wp2_with fail
          refine ⟨hJ.loop.trans (congrArg (fun x => some (Obj.loop x)) hL.symm), ?_⟩
          gi_wp2_with fail
          generalize hWb : World.mk (W.heap.setIfInBounds (wo.heap.size + 2 + 1) _) _ _ _ _ = Wb
          obtain ⟨L', hl', hLL⟩ : ∃ L' : Loop, Wb.heap[wo.heap.size + 2 + 1]? = some (.loop L') ∧ { L' with state := .ready, pending := none } = L := by
            rw [← hWb]; exact ⟨_, setBlk_same hJ.loop _, hL⟩
          have hob : ∀ c, c ≠ wo.heap.size + 2 + 1 → Wb.heap[c]? = W.heap[c]? := by
            intro c hc; rw [← hWb]; exact setBlk_other hc _
          have hsb : Wb.heap.size = W.heap.size := by rw [← hWb]; simp
          have hbb : Below wo.heap.size W Wb := by rw [← hWb]; exact setBlk_below (by omega) _
          have hub : HasU64 Wb wo.heap.size := by obtain ⟨x, hx⟩ := hJ.cell; exact ⟨x, (hob _ (by omega)).trans hx⟩
          clear hWb hL
          refine wpIn_region_F (by kernel_rfl) (by kernel_rfl) (Ex wo.heap.size) (fun i u W' => match i with | 0 => ∃ x : Int, u = .int .u64 x | 1 => u = v | 2 => ∃ x : Int, u = .int .u64 x | 3 => ∃ x : Int, u = .int .u64 x | _ => True) ?e0 Ex.trans ?hphi ?hop ?done
          case e0 => exact Ex.below ((Below.refl _ _).drew)
          case hphi => intro j u w1 w2 _ h; exact h
          case hop =>
            intro i o hi
            match i, hi with
            | 0, hi =>
              obtain rfl := Option.some.inj hi
              intro a w2 hE hoth hpre
              obtain ⟨x, hx⟩ := hE.cell hub
              have hcx : w2.cell? ⟨wo.heap.size, 0, none⟩ = some (.int .u64 x) := (cell_at hx).trans rfl
              exact wpo_load 50 (.tmp 9) rfl (.pointer (some ⟨wo.heap.size, 0, none⟩)) (hoth 9 (by decide)) (.int .u64 x) (by go_simp) ⟨Ex.refl _ _, _, rfl, x, rfl⟩
            | 1, hi =>
              obtain rfl := Option.some.inj hi
              intro a w2 hE hoth hpre
              exact wpo_move (.tmp 10) rfl v (hoth 10 (by decide)) ⟨Ex.refl _ _, _, rfl, rfl⟩
            | 2, hi =>
              obtain rfl := Option.some.inj hi
              intro a w2 hE hoth hpre
              have h1 := hpre { on := 1, ground := .data } (by simp) rfl _ rfl
              refine wpo_inv (.tmp 45) HK _ _ rfl v h1 [] rfl _ (hash w2) ?_
              rintro y w3 ⟨x, rfl, hb3⟩
              exact ⟨Ex.below hb3, _, rfl, x, rfl⟩
            | 3, hi =>
              obtain rfl := Option.some.inj hi
              intro a w2 hE hoth hpre
              obtain ⟨x, hx⟩ := hpre { on := 0, ground := .data } (by simp) rfl _ rfl
              obtain ⟨y, hy⟩ := hpre { on := 2, ground := .data } (by simp) rfl _ rfl
              exact wpo_binOp .add 50 50 (.tmp 44) (.tmp 46) rfl (.int .u64 x) (.int .u64 y) hx hy (.int .u64 (IntKind.u64.wrap (x + y))) (by go_simp) ⟨Ex.refl _ _, _, rfl, _, rfl⟩
            | 4, hi =>
              obtain rfl := Option.some.inj hi
              intro a w2 hE hoth hpre
              obtain ⟨y, hy⟩ := hpre { on := 3, ground := .data } (by simp) rfl _ rfl
              obtain ⟨x, hx⟩ := hE.cell hub
              have hcx : w2.cell? ⟨wo.heap.size, 0, none⟩ = some (.int .u64 x) := (cell_at hx).trans rfl
              have hfx : w2.frozen? ⟨wo.heap.size, 0, none⟩ = false := by simp [World.frozen?, hx]
              have hs := Ex.set ⟨x, hx⟩ y
              exact wpo_store 50 (.tmp 9) (.tmp 47) rfl (.pointer (some ⟨wo.heap.size, 0, none⟩)) (hoth 9 (by decide)) (.int .u64 y) hy _ (by go_simp) ⟨hs.1, undef, rfl, trivial⟩
            | i + 5, hi => simp at hi
          case done =>
            intro a1 W2 hF
            have hx := hF.ext
            have hl2 : W2.heap[wo.heap.size + 2 + 1]? = some (.loop L') := (hx.other _ (by omega) (by omega)).trans hl'
            simp only [Exit.inBlock]
            change roundPost Tryz.prog (wo.heap.size + 2 + 1) _ .normal a1 W2
            refine roundPost_normal hl2 ?_
            rw [hLL]
            have hb2 : Below wo.heap.size Wb W2 := ⟨hx.os, hx.tape, hx.output, hx.size, fun c hc => hx.other c (by omega) (by omega)⟩
            have hso : ∀ c, c ≠ wo.heap.size → c ≠ wo.heap.size + 2 + 1 → c < W.heap.size → ({ W2 with heap := W2.heap.setIfInBounds (wo.heap.size + 2 + 1) (.loop L) } : World).heap[c]? = W.heap[c]? :=
              fun c h1 h2 h3 => (setBlk_other h2 _).trans ((hx.other c h1 (by omega)).trans (hob c h2))
            refine ⟨rfl, ⟨hJ.below.trans (hbb.trans (hb2.trans (setBlk_below (by omega) _))), ?_, (hso _ (by omega) (by omega) (by omega)).trans hJ.defer, setBlk_same hl2 _, ?_⟩, ⟨?_, fun c h1 h2 => hso c (by omega) (by omega) h2, hso _ (by omega) (by omega) (by omega)⟩⟩
            · obtain ⟨x, hx2⟩ := hx.cell hub
              exact ⟨x, (setBlk_other (by omega) _).trans hx2⟩
            · rw [setBlk_size]; have := hx.size; omega
            · rw [setBlk_size]; have := hx.size; omega
      case rest =>
        intro fnid W hJ hl
        have hlen := hm.lt
        have hmW := hm.below hJ.below hlen
        have hrW : W.heap[w.heap.size]? = some (.cells #[.map none, .int .u64 0] 180 (0, 0)) := (hJ.below.block _ (by omega)).trans hr
        obtain ⟨x, hx⟩ := hJ.cell
        have hd := hJ.defer
        have hbW := hb.trans (hJ.below.mono (by omega))
        have hsW := hJ.size
        clear hl hJ
        generalize hWz : World.mk (W.heap.setIfInBounds _ _) _ _ _ _ = Wz
        simp only [World.size_alloc] at hWz ⊢
        have hoz : ∀ c, c ≠ wo.heap.size + 1 + 1 + 1 → Wz.heap[c]? = W.heap[c]? := by
          intro c hc; rw [← hWz]; exact setBlk_other hc _
        have hsz2 : Wz.heap.size = W.heap.size := by rw [← hWz]; simp
        have hbz : Below wo.heap.size W Wz := by rw [← hWz]; exact setBlk_below (by omega) _
        have hmz := hmW.below hbz (by omega)
        have hrz := (hoz w.heap.size (by omega)).trans hrW
        have hxz := (hoz wo.heap.size (by omega)).trans hx
        have hdz := (hoz (wo.heap.size + 2) (by omega)).trans hd
        have hbwz := hbW.trans (hbz.mono (by omega))
        have c0 : Wz.cell? ⟨wo.heap.size, 0, none⟩ = some (.int .u64 x) := (cell_at hxz).trans rfl
        have c1 : Wz.cell? ⟨w.heap.size, 0, none⟩ = some (.map none) := (cell_at hrz).trans rfl
        have c2 : Wz.cell? ⟨w.heap.size, 1, none⟩ = some (.int .u64 0) := (cell_at hrz).trans rfl
        have f1 : Wz.frozen? ⟨w.heap.size, 0, none⟩ = false := by simp [World.frozen?, hrz]
        have f2 : Wz.frozen? ⟨w.heap.size, 1, none⟩ = false := by simp [World.frozen?, hrz]
        clear hWz hoz hrW hx hd hbW hmW
        go_wp2
        have hdd : ((Wz.setCell ⟨w.heap.size, 0, none⟩ (.map (some (w.heap.size + 1)))).setCell ⟨w.heap.size, 1, none⟩ (.int .u64 x)).heap[wo.heap.size + 2]? = some (.deferred (some [])) := by
          rw [Below.heap_setCell _ _ _ _ (by simp; omega), Below.heap_setCell _ _ _ _ (by simp; omega)]; exact hdz
        refine ⟨by simp, .inl ⟨_, _, rfl, run_takeDeferred hdd, ?_⟩⟩
        obtain ⟨Wy, hWy⟩ : ∃ Wy, (Wz.setCell ⟨w.heap.size, 0, none⟩ (.map (some (w.heap.size + 1)))).setCell ⟨w.heap.size, 1, none⟩ (.int .u64 x) = Wy := ⟨_, rfl⟩
        rw [hWy]
        have hy0 : Wy.heap[w.heap.size]? = some (.cells #[.map (some (w.heap.size + 1)), .int .u64 x] 180 (0, 0)) := by
          rw [← hWy]; exact setCell_here (setCell_here hrz _) _
        have hyo : ∀ c, c ≠ w.heap.size → Wy.heap[c]? = Wz.heap[c]? := by
          intro c h1; rw [← hWy, Below.heap_setCell _ _ _ _ h1, Below.heap_setCell _ _ _ _ h1]
        have hyb : Below w.heap.size w Wy := by
          rw [← hWy]; exact (hbwz.setCell (by simp) _).setCell (by simp) _
        have hys : Wy.heap.size = Wz.heap.size := by rw [← hWy]; simp
        clear hWy
        have hpo : ∀ c, c ≠ wo.heap.size + 1 + 1 → (Wy.putObj (wo.heap.size + 1 + 1) (.deferred none)).heap[c]? = Wy.heap[c]? := fun c h1 => setBlk_other (w := Wy) h1 _
        have hps : (Wy.putObj (wo.heap.size + 1 + 1) (.deferred none)).heap.size = Wy.heap.size := by simp [World.putObj]
        have hpb : Below w.heap.size w (Wy.putObj (wo.heap.size + 1 + 1) (.deferred none)) := hyb.trans (setBlk_below (w := Wy) (by omega) _)
        generalize Wy.putObj (wo.heap.size + 1 + 1) (.deferred none) = Wf at hpo hps hpb
        have hf0 := (hpo w.heap.size (by omega)).trans hy0
        refine ⟨.agg #[.map (some (w.heap.size + 1)), .int .u64 x], ?_, ?_⟩
        · exact results_cell (a := 2) (t := 180) (by kernel_rfl) _ ⟨w.heap.size, 0, none⟩ rfl _ _ (run_loadVar180 _ _ _ _ ((cell_at hf0).trans rfl) ((cell_at hf0).trans rfl))
        · have hmf := hmz.kept ((hpo (w.heap.size + 1) (by omega)).trans (hyo _ (by omega)))
          exact ⟨_, _, rfl, hpb, .inr ⟨_, rfl, by omega, by omega, hmf.weaken (by omega) (fun v h => h) (fun v h => h)⟩⟩
end Go.Proofs.Exp
namespace Go.Proofs.Exp
open Go.RowKit
set_option linter.unusedVariables false
attribute [local go_sem] Oper.semAt_some
set_option maxRecDepth 20000 in
set_option maxHeartbeats 1600000 in
theorem newset_nil (X : Value → Prop) (w : World) :
    Calls Tryz.prog 51 #[.slice none 0 0] w (SetPost X w) := by
  refine (callsIn_wide (n := 0)).1 (callsIn_of_wp_marks Tryz.func51 rfl trivial ((wpIn_wide).2 ?_))
  simp only [Tryz.ntmps51, List.size_toArray, List.length_cons, List.length_nil, Nat.reduceAdd, Nat.reduceSub, Array.replicate_succ, Array.replicate_zero, List.push_toArray, List.append_toArray, List.nil_append, List.cons_append]
  have hne := fun w => run_neq_slice_nil_any w 175 44 none 0 0 0 0 u175T
  simp only [Option.isNone_none, Bool.not_true] at hne
  go_wp2_with fail
  obtain ⟨W1, hW1⟩ : ∃ W1, (w.alloc (.cells #[.map none, .int .u64 0] 180)) = W1 := ⟨_, rfl⟩
  rw [hW1]
  have b1 : Below w.heap.size w W1 := by rw [← hW1]; exact (below_refl_alloc w _)
  have s1 : w.heap.size + 1 ≤ W1.heap.size := by rw [← hW1]; simp
  have r1 : W1.heap[w.heap.size]? = some (.cells #[.map none, .int .u64 0] 180 (0, 0)) := by rw [← hW1]; exact heap_alloc_new w _
  clear hW1
  go_loopw [18] (fun i wr => i = .int .i64 0 ∧ wr = W1) (fun i _ => 0)
  case atStart => exact ⟨rfl, rfl⟩
  case round =>
    obtain ⟨rfl, rfl⟩ := hrel
    obtain ⟨wo, rfl⟩ : ∃ wo : World, wo = wr := ⟨_, rfl⟩
    go_wp2_with fail
    refine (maps_values _ _).mono ?_
    rintro e w2 ⟨rfl, rfl⟩
    go_wp2_with fail
    refine wp_rangeFunc_J 93 #[.pointer (some ⟨wo.heap.size + 1, 0, none⟩)] Tryz.f93 rfl Tryz.func93 (by kernel_rfl) (by kernel_rfl) (InLoop wo) ?iter ?rest
    case iter =>
      intro fnid
      unfold rangeWorld
      simp only [World.size_alloc]
      generalize hL : loopRec fnid _ _ _ _ _ = L
      refine (values_iter_nil (wo.heap.size + 2 + 1) (wo.heap.size + 1) (InLoop wo L) _ ?hJ ?hmb ?h0).mono ?hpost
      case hJ => intro W W' h; exact InLoop.kept (by simpa using h)
      case hmb => go_simp
      case h0 => exact InLoop.start wo _ L
      case hpost =>
        rintro e w' ⟨rfl, hj⟩
        exact ⟨⟨_, rfl⟩, hj, hj.loop⟩
    case rest =>
      intro fnid W hJ hl
      have hrW : W.heap[w.heap.size]? = some (.cells #[.map none, .int .u64 0] 180 (0, 0)) := (hJ.below.block _ (by omega)).trans r1
      obtain ⟨x, hx⟩ := hJ.cell
      have hd := hJ.defer
      have hbW := b1.trans (hJ.below.mono (by omega))
      have hsW := hJ.size
      clear hl hJ
      generalize hWz : World.mk (W.heap.setIfInBounds _ _) _ _ _ _ = Wz
      simp only [World.size_alloc] at hWz ⊢
      have hoz : ∀ c, c ≠ wo.heap.size + 1 + 1 + 1 → Wz.heap[c]? = W.heap[c]? := by
        intro c hc; rw [← hWz]; exact setBlk_other hc _
      have hsz2 : Wz.heap.size = W.heap.size := by rw [← hWz]; simp
      have hbz : Below wo.heap.size W Wz := by rw [← hWz]; exact setBlk_below (by omega) _
      have hrz := (hoz w.heap.size (by omega)).trans hrW
      have hxz := (hoz wo.heap.size (by omega)).trans hx
      have hdz := (hoz (wo.heap.size + 2) (by omega)).trans hd
      have hbwz := hbW.trans (hbz.mono (by omega))
      have c0 : Wz.cell? ⟨wo.heap.size, 0, none⟩ = some (.int .u64 x) := (cell_at hxz).trans rfl
      have c1 : Wz.cell? ⟨w.heap.size, 0, none⟩ = some (.map none) := (cell_at hrz).trans rfl
      have c2 : Wz.cell? ⟨w.heap.size, 1, none⟩ = some (.int .u64 0) := (cell_at hrz).trans rfl
      have f1 : Wz.frozen? ⟨w.heap.size, 0, none⟩ = false := by simp [World.frozen?, hrz]
      have f2 : Wz.frozen? ⟨w.heap.size, 1, none⟩ = false := by simp [World.frozen?, hrz]
      clear hWz hoz hrW hx hd hbW
      go_wp2
      have hdd : ((Wz.setCell ⟨w.heap.size, 0, none⟩ (.map none)).setCell ⟨w.heap.size, 1, none⟩ (.int .u64 x)).heap[wo.heap.size + 2]? = some (.deferred (some [])) := by
        rw [Below.heap_setCell _ _ _ _ (by simp; omega), Below.heap_setCell _ _ _ _ (by simp; omega)]; exact hdz
      refine ⟨by simp, .inl ⟨_, _, rfl, run_takeDeferred hdd, ?_⟩⟩
      obtain ⟨Wy, hWy⟩ : ∃ Wy, (Wz.setCell ⟨w.heap.size, 0, none⟩ (.map none)).setCell ⟨w.heap.size, 1, none⟩ (.int .u64 x) = Wy := ⟨_, rfl⟩
      rw [hWy]
      have hy0 : Wy.heap[w.heap.size]? = some (.cells #[.map none, .int .u64 x] 180 (0, 0)) := by
        rw [← hWy]; exact setCell_here (setCell_here hrz _) _
      have hyb : Below w.heap.size w Wy := by
        rw [← hWy]; exact (hbwz.setCell (by simp) _).setCell (by simp) _
      have hys : Wy.heap.size = Wz.heap.size := by rw [← hWy]; simp
      clear hWy
      have hpo : ∀ c, c ≠ wo.heap.size + 1 + 1 → (Wy.putObj (wo.heap.size + 1 + 1) (.deferred none)).heap[c]? = Wy.heap[c]? := fun c h1 => setBlk_other (w := Wy) h1 _
      have hps : (Wy.putObj (wo.heap.size + 1 + 1) (.deferred none)).heap.size = Wy.heap.size := by simp [World.putObj]
      have hpb : Below w.heap.size w (Wy.putObj (wo.heap.size + 1 + 1) (.deferred none)) := hyb.trans (setBlk_below (w := Wy) (by omega) _)
      generalize Wy.putObj (wo.heap.size + 1 + 1) (.deferred none) = Wf at hpo hps hpb
      have hf0 := (hpo w.heap.size (by omega)).trans hy0
      refine ⟨.agg #[.map none, .int .u64 x], ?_, ?_⟩
      · exact results_cell (a := 2) (t := 180) (by kernel_rfl) _ ⟨w.heap.size, 0, none⟩ rfl _ _ (run_loadVar180 _ _ _ _ ((cell_at hf0).trans rfl) ((cell_at hf0).trans rfl))
      · exact ⟨_, _, rfl, hpb, .inl rfl⟩
end Go.Proofs.Exp
