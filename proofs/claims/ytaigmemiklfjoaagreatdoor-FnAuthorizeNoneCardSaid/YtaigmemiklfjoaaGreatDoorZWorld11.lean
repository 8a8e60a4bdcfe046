/- Part of the proof of FnAuthorizeNone: without policies no request is allowed; for every world that comes in. -/
import Derived.Test.YtaigmemiklfjoaaGreatDoorZUids
set_option linter.unusedSimpArgs false
set_option linter.unusedVariables false
set_option linter.unnecessarySimpa false
namespace Go.Proofs.Exp
open Go.RowKit
set_option linter.unusedVariables false
attribute [local go_sem] Oper.semAt_some
theorem compiled_nil (w : World) : Calls Tryz.prog 10 #[.slice none 0 0] w fun e w' => e = .returned (.tuple #[.slice none 0 0, .bool true]) ∧ w' = w := by
  go_enter Tryz.func10, Tryz.ntmps10
  go_wp2_with fail
  go_loopw [4, 11] (fun o i wr => o = .slice none 0 0 ∧ i = .int .i64 0 ∧ wr = w) (fun _ i _ => 0)
  case atStart => exact ⟨rfl, rfl, rfl⟩
  case round =>
    obtain ⟨rfl, rfl, rfl⟩ := hrel
    go_wp2
    go_ret2
    exact ⟨rfl, rfl⟩
/-- The world that comes in: its thirteen cells. -/
structure WorldIn (w : World) (B : Nat) where
  pe : Option Addr
  ne : Nat
  ce : Nat
  ge : Nat → Bool
  s1 : ByteArray
  t1 : ByteArray
  s2 : ByteArray
  t2 : ByteArray
  s3 : ByteArray
  t3 : ByteArray
  kd : Int
  n : Int
  s : ByteArray
  t : ByteArray
  pk : Option Addr
  nk : Nat
  ck : Nat
  pl : Option Addr
  nl : Nat
  cl : Nat
  ks : Nat → ByteArray
  el : Nat → Value
  g : Nat → Bool
  he : EntRow w B ne pe ge
  h1 : s1.size ≤ 140737488351232 ∧ t1.size ≤ 140737488351232
  h2 : s2.size ≤ 140737488351232 ∧ t2.size ≤ 140737488351232
  h3 : s3.size ≤ 140737488351232 ∧ t3.size ≤ 140737488351232
  hs : s.size ≤ 140737488351232 ∧ t.size ≤ 140737488351232
  hk : TextRow w B nk pk ks
  hl : SixRow w B nl pl el
  hr : ∀ i, i < nl → InV w B (el i) (g i)
def WorldIn.val {w : World} {B : Nat} (d : WorldIn w B) : Value :=
  .agg #[.slice d.pe d.ne d.ce, .string d.s1, .string d.t1, .string d.s2, .string d.t2, .string d.s3, .string d.t3, .int .i64 d.kd, .int .i64 d.n, .string d.s, .string d.t, .slice d.pk d.nk d.ck, .slice d.pl d.nl d.cl]
def WorldIn.good {w : World} {B : Nat} (d : WorldIn w B) : Bool := (decide (d.kd = 6) && (decide (d.nk = d.nl) && allB d.nl d.g)) && allB d.ne d.ge
def WPost (w : World) (ok : Bool) (e : Ending) (w' : World) : Prop :=
  ∃ v, e = .returned (.tuple #[v, .bool ok]) ∧ Below w.heap.size w w' ∧ ((v = .agg #[.nilIface, .nilIface, .nilIface, .nilIface, .nilIface] ∧ ok = false) ∨ ∃ m v1 v2 v3 v4, v = .agg #[.iface 99 (.map m), .iface 66 v1, .iface 66 v2, .iface 66 v3, .iface 52 v4])
theorem load5 {P : Program} {t : TypeId} (b : Nat) (w : World) (v0 v1 v2 v3 v4 : Value) (ha : (isAgg t).run P w = .ok true w) (hs : (sizeOf t).run P w = .ok 5 w) (h0 : w.cell? ⟨b, 0, none⟩ = some v0) (h1 : w.cell? ⟨b, 1, none⟩ = some v1)
    (h2 : w.cell? ⟨b, 2, none⟩ = some v2) (h3 : w.cell? ⟨b, 3, none⟩ = some v3) (h4 : w.cell? ⟨b, 4, none⟩ = some v4) :
    (loadVar t ⟨b, 0, none⟩).run P w = .ok (.agg #[v0, v1, v2, v3, v4]) w := by
  simp only [loadVar, Sem.run_bind, ha, hs, Result.andThen_ok, Sem.run_pure, if_true]
  simp [loadCells, go_sem, h0, h1, h2, h3, h4]
abbrev set5w (w : World) (b : Nat) (v0 v1 v2 v3 v4 : Value) : World := ((((w.setCell ⟨b, 0, none⟩ v0).setCell ⟨b, 1, none⟩ v1).setCell ⟨b, 2, none⟩ v2).setCell ⟨b, 3, none⟩ v3).setCell ⟨b, 4, none⟩ v4
theorem set5 {w : World} {b : Nat} {u0 u1 u2 u3 u4 : Value} {t : TypeId} (h : w.heap[b]? = some (.cells #[u0, u1, u2, u3, u4] t (0, 0))) (v0 v1 v2 v3 v4 : Value) :
    (set5w w b v0 v1 v2 v3 v4).heap[b]? = some (.cells #[v0, v1, v2, v3, v4] t (0, 0)) :=
  setCell_here (o := 4) (setCell_here (o := 3) (setCell_here (o := 2) (setCell_here (o := 1) (setCell_here (o := 0) h v0) v1) v2) v3) v4
theorem set5_below {w w' : World} {b B : Nat} (h : Below B w w') (hb : B ≤ b) (v0 v1 v2 v3 v4 : Value) : Below B w (set5w w' b v0 v1 v2 v3 v4) := ((((h.setCell hb _).setCell hb _).setCell hb _).setCell hb _).setCell hb _
theorem w_end {w W : World} (ok : Bool) {R : Nat} {v0 v1 v2 v3 v4 : Value} (r : W.heap[R]? = some (.cells #[v0, v1, v2, v3, v4] 46 (0, 0))) (hb : Below w.heap.size w W) (a : Act) (ha : a.tmps.getD 2 undef = .pointer (some ⟨R, 0, none⟩)) (h3 : a.tmps.getD 3 undef = .bool ok) (had : a.defers = [])
    (hok : (.agg #[v0, v1, v2, v3, v4] = Value.agg #[.nilIface, .nilIface, .nilIface, .nilIface, .nilIface] ∧ ok = false) ∨ ∃ m u1 u2 u3 u4, Value.agg #[v0, v1, v2, v3, v4] = .agg #[.iface 99 (.map m), .iface 66 u1, .iface 66 u2, .iface 66 u3, .iface 52 u4]) :
    bodyPost Tryz.prog Tryz.f11 (WPost w ok) Exit.ret a W := by
  refine bodyPost_ret (results_cell_tmp (a := 2) (t := 46) (u := 3) (by kernel_rfl) _ ⟨R, 0, none⟩ ha _ _ (load5 _ _ _ _ _ _ _ (by kernel_rfl) (by kernel_rfl) (blk1 r 0) (blk1 r 1) (blk1 r 2) (blk1 r 3) (blk1 r 4))) had ?_
  rw [h3]
  exact ⟨_, rfl, hb, hok⟩
theorem wpo_mkI {P : Program} {o : Oper} {a : Act} {w : World} {K : Act → World → Prop} {Q : Exit → Act → World → Prop} (t : TypeId) (x : Operand) (ho : o.op = .makeInterface t x) (v u : Value) (hx : a.eval x = v) (hr : (Instr.makeInterface t v).run P w = .ok u w) (h : K (a.put o.dst u) w) : o.wp P a w K Q := by
  unfold Oper.wp; simp only [execOp, ho, hx, Sem.run_bind, hr, Result.andThen_ok, Sem.run_pure, Oper.upon]; exact h
theorem load24o (w : World) (b o : Nat) (s t : ByteArray) (h0 : w.cell? ⟨b, o, none⟩ = some (.string s)) (h1 : w.cell? ⟨b, o + 1, none⟩ = some (.string t)) : (Instr.loadAt 24 (.pointer (some ⟨b, o, none⟩))).run Tryz.prog w = .ok (.agg #[.string s, .string t]) w := by
  go_simp
theorem mkI99 (w : World) (m : Option Nat) : (Instr.makeInterface 99 (.map m)).run Tryz.prog w = .ok (.iface 99 (.map m)) w := by kernel_rfl
theorem mkI66 (w : World) (s t : ByteArray) : (Instr.makeInterface 66 (.agg #[.string s, .string t])).run Tryz.prog w = .ok (.iface 66 (.agg #[.string s, .string t])) w := by kernel_rfl
theorem mkI52 (w : World) (m : Option Nat) (h : Int) : (Instr.makeInterface 52 (.agg #[.map m, .int .u64 h])).run Tryz.prog w = .ok (.iface 52 (.agg #[.map m, .int .u64 h])) w := by kernel_rfl
theorem field30_1 (w : World) (b : Nat) : (Instr.fieldAt 30 (.pointer (some ⟨b, 0, none⟩)) 1).run Tryz.prog w = .ok (.pointer (some ⟨b, 1, none⟩)) w := by kernel_rfl
theorem field30_2 (w : World) (b : Nat) : (Instr.fieldAt 30 (.pointer (some ⟨b, 0, none⟩)) 2).run Tryz.prog w = .ok (.pointer (some ⟨b, 3, none⟩)) w := by kernel_rfl
theorem field30_3 (w : World) (b : Nat) : (Instr.fieldAt 30 (.pointer (some ⟨b, 0, none⟩)) 3).run Tryz.prog w = .ok (.pointer (some ⟨b, 5, none⟩)) w := by kernel_rfl
theorem build46 (w : World) (m : Option Nat) (v1 v2 v3 v4 : Value) : (Instr.build 46 #[(0, .iface 99 (.map m)), (1, .iface 66 v1), (2, .iface 66 v2), (3, .iface 66 v3), (4, .iface 52 v4)]).run Tryz.prog w = .ok (.agg #[.iface 99 (.map m), .iface 66 v1, .iface 66 v2, .iface 66 v3, .iface 52 v4]) w := by kernel_rfl
theorem wpo_build5 {P : Program} {o : Oper} {a : Act} {w : World} {K : Act → World → Prop} {Q : Exit → Act → World → Prop} (t : TypeId) (x0 x1 x2 x3 x4 : Operand) (ho : o.op = .build t #[(0, x0), (1, x1), (2, x2), (3, x3), (4, x4)]) (v0 v1 v2 v3 v4 : Value) (h0 : a.eval x0 = v0) (h1 : a.eval x1 = v1) (h2 : a.eval x2 = v2) (h3 : a.eval x3 = v3) (h4 : a.eval x4 = v4)
    (v : Value) (hr : (Instr.build t #[(0, v0), (1, v1), (2, v2), (3, v3), (4, v4)]).run P w = .ok v w) (h : K (a.put o.dst v) w) : o.wp P a w K Q := by
  unfold Oper.wp
  simp only [execOp, ho, List.map_toArray, List.map_cons, List.map_nil, h0, h1, h2, h3, h4, Sem.run_bind, hr, Result.andThen_ok, Sem.run_pure, Oper.upon]
  exact h
theorem store46 (w : World) (b : Nat) {u0 u1 u2 u3 u4 : Value} (hu : w.heap[b]? = some (.cells #[u0, u1, u2, u3, u4] 46 (0, 0))) (m : Option Nat) (v1 v2 v3 v4 : Value) :
    (Instr.storeAt 46 (.pointer (some ⟨b, 0, none⟩)) (.agg #[.iface 99 (.map m), .iface 66 v1, .iface 66 v2, .iface 66 v3, .iface 52 v4])).run Tryz.prog w = .ok () (set5w w b (.iface 99 (.map m)) (.iface 66 v1) (.iface 66 v2) (.iface 66 v3) (.iface 52 v4)) := by
  have c0 := blk1 hu 0
  have c1 := blk1 hu 1
  have c2 := blk1 hu 2
  have c3 := blk1 hu 3
  have c4 := blk1 hu 4
  have f : ∀ i, w.frozen? ⟨b, i, none⟩ = false := fun i => by simp [World.frozen?, hu]
  simp only [List.getElem?_toArray, List.getElem?_cons_succ, List.getElem?_cons_zero] at c0 c1 c2 c3 c4
  go_simp
def ΦW (e : Nat) (m : Option Nat) (s1 t1 s2 t2 s3 t3 : ByteArray) (m1 : Option Nat) (h1 : Int) (ok : Bool) (R : Nat) (i : Nat) (u : Value) (W : World) : Prop :=
  match i with
  | 0 => u = .map m
  | 1 => u = .iface 99 (.map m)
  | 2 => u = .pointer (some ⟨e, 1, none⟩)
  | 3 => u = .agg #[.string s1, .string t1]
  | 4 => u = .agg #[.string s1, .string t1]
  | 5 => u = .iface 66 (.agg #[.string s1, .string t1])
  | 6 => u = .pointer (some ⟨e, 3, none⟩)
  | 7 => u = .agg #[.string s2, .string t2]
  | 8 => u = .agg #[.string s2, .string t2]
  | 9 => u = .iface 66 (.agg #[.string s2, .string t2])
  | 10 => u = .pointer (some ⟨e, 5, none⟩)
  | 11 => u = .agg #[.string s3, .string t3]
  | 12 => u = .agg #[.string s3, .string t3]
  | 13 => u = .iface 66 (.agg #[.string s3, .string t3])
  | 14 => u = .agg #[.map m1, .int .u64 h1]
  | 15 => u = .iface 52 (.agg #[.map m1, .int .u64 h1])
  | 16 => u = .agg #[.iface 99 (.map m), .iface 66 (.agg #[.string s1, .string t1]), .iface 66 (.agg #[.string s2, .string t2]), .iface 66 (.agg #[.string s3, .string t3]), .iface 52 (.agg #[.map m1, .int .u64 h1])]
  | 17 => u = .bool ok
  | 18 => W.heap[R]? = some (.cells #[.iface 99 (.map m), .iface 66 (.agg #[.string s1, .string t1]), .iface 66 (.agg #[.string s2, .string t2]), .iface 66 (.agg #[.string s3, .string t3]), .iface 52 (.agg #[.map m1, .int .u64 h1])] 46 (0, 0))
  | 19 => u = .bool ok
  | _ => True
/-- Nothing has turned but block R, which holds five cells, and new blocks. -/
structure ExW (R : Nat) (st : Obj) (u v : World) : Prop where
  os : v.os = u.os
  tape : v.tape = u.tape
  output : v.output = u.output
  size : u.heap.size ≤ v.heap.size
  other : ∀ c, c ≠ R → c < u.heap.size → v.heap[c]? = u.heap[c]?
  here : R < u.heap.size → v.heap[R]? = u.heap[R]? ∨ v.heap[R]? = some st
theorem ExW.refl (R : Nat) (st : Obj) (u : World) : ExW R st u u := ⟨rfl, rfl, rfl, Nat.le_refl _, fun _ _ _ => rfl, fun _ => .inl rfl⟩
theorem ExW.trans {R : Nat} {st : Obj} (u v w : World) (h : ExW R st u v) (k : ExW R st v w) : ExW R st u w :=
  ⟨k.os.trans h.os, k.tape.trans h.tape, k.output.trans h.output, Nat.le_trans h.size k.size, fun c hc hl => (k.other c hc (Nat.lt_of_lt_of_le hl h.size)).trans (h.other c hc hl), fun hl => by
    rcases k.here (Nat.lt_of_lt_of_le hl h.size) with e | e
    · rw [e]; exact h.here hl
    · exact .inr e⟩
theorem ExW.below {R : Nat} {st : Obj} {u v : World} (h : Below u.heap.size u v) : ExW R st u v := ⟨h.os, h.tape, h.output, h.size, fun c _ hl => h.block c hl, fun hl => .inl (h.block R hl)⟩
theorem ExW.toBelow {R B : Nat} {st : Obj} {u v : World} (h : ExW R st u v) (h1 : B ≤ R) (h2 : B ≤ u.heap.size) : Below B u v := ⟨h.os, h.tape, h.output, h.size, fun k hk => h.other k (by omega) (by omega)⟩
set_option maxRecDepth 20000 in
set_option maxHeartbeats 1600000 in
theorem world_c (w0 : World) (B : Nat) (d : WorldIn w0 B) (w : World) (hw : Below B w0 w) (hB : B ≤ w.heap.size) (gd : Bool) (hgd : gd = d.good) (v : Value) (hv : v = d.val) :
    Calls Tryz.prog 11 #[v] w (WPost w gd) := by
  obtain ⟨pe, ne, ce, ge, s1, t1, s2, t2, s3, t3, kd, n, s, t, pk, nk, ck, pl, nl, cl, ks, el, g, he, h1, h2, h3, hs, hk, hl, hr⟩ := d
  replace hv : v = .agg #[.slice pe ne ce, .string s1, .string t1, .string s2, .string t2, .string s3, .string t3, .int .i64 kd, .int .i64 n, .string s, .string t, .slice pk nk ck, .slice pl nl cl] := hv
  replace hgd : gd = ((decide (kd = 6) && (decide (nk = nl) && allB nl g)) && allB ne ge) := hgd
  subst hv
  go_enter Tryz.func11, Tryz.ntmps11
  go_wp2_with fail
  obtain ⟨W1, hW1⟩ : ∃ W1, (w.alloc (.cells #[.slice pe ne ce, .string s1, .string t1, .string s2, .string t2, .string s3, .string t3, .int .i64 kd, .int .i64 n, .string s, .string t, .slice pk nk ck, .slice pl nl cl] 30)).alloc (.cells #[.nilIface, .nilIface, .nilIface, .nilIface, .nilIface] 46) = W1 := ⟨_, rfl⟩
  rw [hW1]
  have b1 : Below w.heap.size w W1 := by rw [← hW1]; exact (below_refl_alloc w _).alloc (by simp) _
  have s1' : W1.heap.size = w.heap.size + 2 := by rw [← hW1]; simp
  have e1 : W1.heap[w.heap.size]? = some (.cells #[.slice pe ne ce, .string s1, .string t1, .string s2, .string t2, .string s3, .string t3, .int .i64 kd, .int .i64 n, .string s, .string t, .slice pk nk ck, .slice pl nl cl] 30 (0, 0)) := by
    rw [← hW1, Below.heap_alloc _ _ _ (by simp)]; exact heap_alloc_new w _
  have r1 : W1.heap[w.heap.size + 1]? = some (.cells #[.nilIface, .nilIface, .nilIface, .nilIface, .nilIface] 46 (0, 0)) := by
    rw [← hW1]
    have := heap_alloc_new (w.alloc (.cells #[.slice pe ne ce, .string s1, .string t1, .string s2, .string t2, .string s3, .string t3, .int .i64 kd, .int .i64 n, .string s, .string t, .slice pk nk ck, .slice pl nl cl] 30)) (.cells #[.nilIface, .nilIface, .nilIface, .nilIface, .nilIface] 46)
    simpa using this
  clear hW1
  refine (entities_c w0 B ne ce pe ge he W1 (hw.trans (b1.mono hB)) (by omega)).mono ?_
  rintro e w2 ⟨m, rfl, hb2⟩
  have bo2 : Below w.heap.size w w2 := b1.trans (hb2.mono (by omega))
  have hs2 := hb2.size
  have e2 := (hb2.block w.heap.size (by omega)).trans e1
  have r2 := (hb2.block (w.heap.size + 1) (by omega)).trans r1
  clear b1 e1 r1 hb2 he
  have f0 : ∀ i, w2.frozen? ⟨w.heap.size + 1, i, none⟩ = false := fun i => by simp [World.frozen?, r2]
  have c2 : ∀ i, w2.cell? ⟨w.heap.size + 1, i, none⟩ = (#[.nilIface, .nilIface, .nilIface, .nilIface, .nilIface] : Array Value)[i]? := fun i => blk1 r2 i
  have c20 := c2 0; have c21 := c2 1; have c22 := c2 2; have c23 := c2 3; have c24 := c2 4
  have q7 := blk1 e2 7
  have q11 := blk1 e2 11
  have q12 := blk1 e2 12
  simp only [List.getElem?_toArray, List.getElem?_cons_succ, List.getElem?_cons_zero] at c20 c21 c22 c23 c24 q7 q11 q12
  clear c2
  cases hall : allB ne ge with
  | false =>
    have hgf : gd = false := by rw [hgd, hall]; simp
    clear hgd
    subst hgf
    go_wp2
    try simp only [Exit.inBlock, Exit.then]
    exact w_end false (set5 r2 .nilIface .nilIface .nilIface .nilIface .nilIface) (set5_below bo2 (by omega) _ _ _ _ _) _ rfl rfl rfl (.inl ⟨rfl, rfl⟩)
  | true =>
    by_cases hkd : kd = 6
    · subst hkd
      go_wp2_with fail
      refine (record_c w0 B nk ck nl cl pk pl ks el g hk hl (fun i hi => value_any (hr i hi)) w2 (hw.trans (bo2.mono hB)) (by omega)).mono ?_
      rintro e w3 ⟨m1, h1', rfl, hb3, _⟩
      have hs3 := hb3.size
      have bo3 : Below w.heap.size w w3 := bo2.trans (hb3.mono (by omega))
      have e3 := (hb3.block w.heap.size (by omega)).trans e2
      have r3 := (hb3.block (w.heap.size + 1) (by omega)).trans r2
      have hgd2 : gd = (decide (nk = nl) && allB nl g) := by rw [hgd, hall]; simp
      clear e2 r2 hb3 f0 c20 c21 c22 c23 c24 q7 q11 q12 bo2 hk hl hr
      rw [← hgd2]
      go_wp2_with fail
      rw [← hgd2]
      obtain ⟨W4, hW4⟩ : ∃ W4, w3.alloc (.cells #[.map m1, .int .u64 h1'] 52) = W4 := ⟨_, rfl⟩
      rw [hW4]
      have b4 : Below w3.heap.size w3 W4 := by rw [← hW4]; exact below_refl_alloc w3 _
      have f4 : W4.heap[w3.heap.size]? = some (.cells #[.map m1, .int .u64 h1'] 52 (0, 0)) := by rw [← hW4]; exact heap_alloc_new w3 _
      have s4' : W4.heap.size = w3.heap.size + 1 := by rw [← hW4]; simp
      clear hW4
      have e4 := (b4.block w.heap.size (by omega)).trans e3
      have r4 := (b4.block (w.heap.size + 1) (by omega)).trans r3
      have bo4 : Below w.heap.size w W4 := bo3.trans (b4.mono (by omega))
      clear e3 r3 b4 bo3 hgd hgd2
      refine wp_region_F (by kernel_rfl) (by kernel_rfl) (ExW (w.heap.size + 1) (.cells #[.iface 99 (.map m), .iface 66 (.agg #[.string s1, .string t1]), .iface 66 (.agg #[.string s2, .string t2]), .iface 66 (.agg #[.string s3, .string t3]), .iface 52 (.agg #[.map m1, .int .u64 h1'])] 46 (0, 0))) (ΦW w.heap.size m s1 t1 s2 t2 s3 t3 m1 h1' gd (w.heap.size + 1)) ?e0 ExW.trans ?hphi ?hop ?done
      case e0 => exact ExW.below (Below.refl _ _).drew
      case hphi =>
        intro j u w1 w2 hE h
        unfold ΦW at h ⊢
        split <;> first | exact trivial | exact h | skip
        rcases hE.here (Array.getElem?_eq_some_iff.1 h).1 with e | e
        · rw [e]; exact h
        · exact e
      case hop =>
        intro i o hi
        match i, hi with
        | 0, hi =>
          obtain rfl := Option.some.inj hi
          intro a w6 hE hoth hpre
          exact wpo_move (.tmp 4) rfl _ (hoth 4 (by decide)) ⟨ExW.refl _ _ _, _, rfl, rfl⟩
        | 1, hi =>
          obtain rfl := Option.some.inj hi
          intro a w6 hE hoth hpre
          have hh := hpre { on := 0, ground := .data } (by simp) rfl _ rfl
          exact wpo_mkI 99 (.tmp 32) rfl _ _ hh (mkI99 w6 m) ⟨ExW.refl _ _ _, _, rfl, rfl⟩
        | 2, hi =>
          obtain rfl := Option.some.inj hi
          intro a w6 hE hoth hpre
          exact wpo_fieldAddr 30 (.tmp 1) 1 rfl _ (hoth 1 (by decide)) _ (field30_1 w6 _) ⟨ExW.refl _ _ _, _, rfl, rfl⟩
        | 3, hi =>
          obtain rfl := Option.some.inj hi
          intro a w6 hE hoth hpre
          have hh := hpre { on := 2, ground := .data } (by simp) rfl _ rfl
          have e6 := (hE.other w.heap.size (by omega) (by omega)).trans e4
          exact wpo_load 24 (.tmp 34) rfl _ hh _ (load24o w6 _ 1 s1 t1 (blk1 e6 1) (blk1 e6 (1 + 1))) ⟨ExW.refl _ _ _, _, rfl, rfl⟩
        | 4, hi =>
          obtain rfl := Option.some.inj hi
          intro a w6 hE hoth hpre
          have hh := hpre { on := 3, ground := .data } (by simp) rfl _ rfl
          refine wpo_call 14 _ _ rfl _ Tryz.func14 (by kernel_rfl) (by kernel_rfl) [.agg #[.string s1, .string t1]] ?_ (fun y w' => y = .agg #[.string s1, .string t1] ∧ Below w6.heap.size w6 w') ?_ ?_
          · have h1' : a.eval (.tmp 35) = .agg #[.string s1, .string t1] := hh
            simp only [List.map_cons, List.map_nil, h1']
          · exact Calls.mono (uid_c s1 t1 w6) (fun e w' h => ⟨_, h.1, rfl, h.2⟩)
          · rintro y w' ⟨rfl, hb⟩
            exact ⟨ExW.below hb, _, rfl, rfl⟩
        | 5, hi =>
          obtain rfl := Option.some.inj hi
          intro a w6 hE hoth hpre
          have hh := hpre { on := 4, ground := .data } (by simp) rfl _ rfl
          exact wpo_mkI 66 (.tmp 36) rfl _ _ hh (mkI66 w6 s1 t1) ⟨ExW.refl _ _ _, _, rfl, rfl⟩
        | 6, hi =>
          obtain rfl := Option.some.inj hi
          intro a w6 hE hoth hpre
          exact wpo_fieldAddr 30 (.tmp 1) 2 rfl _ (hoth 1 (by decide)) _ (field30_2 w6 _) ⟨ExW.refl _ _ _, _, rfl, rfl⟩
        | 7, hi =>
          obtain rfl := Option.some.inj hi
          intro a w6 hE hoth hpre
          have hh := hpre { on := 6, ground := .data } (by simp) rfl _ rfl
          have e6 := (hE.other w.heap.size (by omega) (by omega)).trans e4
          exact wpo_load 24 (.tmp 38) rfl _ hh _ (load24o w6 _ 3 s2 t2 (blk1 e6 3) (blk1 e6 (3 + 1))) ⟨ExW.refl _ _ _, _, rfl, rfl⟩
        | 8, hi =>
          obtain rfl := Option.some.inj hi
          intro a w6 hE hoth hpre
          have hh := hpre { on := 7, ground := .data } (by simp) rfl _ rfl
          refine wpo_call 14 _ _ rfl _ Tryz.func14 (by kernel_rfl) (by kernel_rfl) [.agg #[.string s2, .string t2]] ?_ (fun y w' => y = .agg #[.string s2, .string t2] ∧ Below w6.heap.size w6 w') ?_ ?_
          · have h1' : a.eval (.tmp 39) = .agg #[.string s2, .string t2] := hh
            simp only [List.map_cons, List.map_nil, h1']
          · exact Calls.mono (uid_c s2 t2 w6) (fun e w' h => ⟨_, h.1, rfl, h.2⟩)
          · rintro y w' ⟨rfl, hb⟩
            exact ⟨ExW.below hb, _, rfl, rfl⟩
        | 9, hi =>
          obtain rfl := Option.some.inj hi
          intro a w6 hE hoth hpre
          have hh := hpre { on := 8, ground := .data } (by simp) rfl _ rfl
          exact wpo_mkI 66 (.tmp 40) rfl _ _ hh (mkI66 w6 s2 t2) ⟨ExW.refl _ _ _, _, rfl, rfl⟩
        | 10, hi =>
          obtain rfl := Option.some.inj hi
          intro a w6 hE hoth hpre
          exact wpo_fieldAddr 30 (.tmp 1) 3 rfl _ (hoth 1 (by decide)) _ (field30_3 w6 _) ⟨ExW.refl _ _ _, _, rfl, rfl⟩
        | 11, hi =>
          obtain rfl := Option.some.inj hi
          intro a w6 hE hoth hpre
          have hh := hpre { on := 10, ground := .data } (by simp) rfl _ rfl
          have e6 := (hE.other w.heap.size (by omega) (by omega)).trans e4
          exact wpo_load 24 (.tmp 42) rfl _ hh _ (load24o w6 _ 5 s3 t3 (blk1 e6 5) (blk1 e6 (5 + 1))) ⟨ExW.refl _ _ _, _, rfl, rfl⟩
        | 12, hi =>
          obtain rfl := Option.some.inj hi
          intro a w6 hE hoth hpre
          have hh := hpre { on := 11, ground := .data } (by simp) rfl _ rfl
          refine wpo_call 14 _ _ rfl _ Tryz.func14 (by kernel_rfl) (by kernel_rfl) [.agg #[.string s3, .string t3]] ?_ (fun y w' => y = .agg #[.string s3, .string t3] ∧ Below w6.heap.size w6 w') ?_ ?_
          · have h1' : a.eval (.tmp 43) = .agg #[.string s3, .string t3] := hh
            simp only [List.map_cons, List.map_nil, h1']
          · exact Calls.mono (uid_c s3 t3 w6) (fun e w' h => ⟨_, h.1, rfl, h.2⟩)
          · rintro y w' ⟨rfl, hb⟩
            exact ⟨ExW.below hb, _, rfl, rfl⟩
        | 13, hi =>
          obtain rfl := Option.some.inj hi
          intro a w6 hE hoth hpre
          have hh := hpre { on := 12, ground := .data } (by simp) rfl _ rfl
          exact wpo_mkI 66 (.tmp 44) rfl _ _ hh (mkI66 w6 s3 t3) ⟨ExW.refl _ _ _, _, rfl, rfl⟩
        | 14, hi =>
          obtain rfl := Option.some.inj hi
          intro a w6 hE hoth hpre
          have e6 := (hE.other w3.heap.size (by omega) (by omega)).trans f4
          exact wpo_load 52 (.tmp 6) rfl _ (hoth 6 (by decide)) _ (load52 w6 _ _ _ (blk1 e6 0) (blk1 e6 1)) ⟨ExW.refl _ _ _, _, rfl, rfl⟩
        | 15, hi =>
          obtain rfl := Option.some.inj hi
          intro a w6 hE hoth hpre
          have hh := hpre { on := 14, ground := .data } (by simp) rfl _ rfl
          exact wpo_mkI 52 (.tmp 46) rfl _ _ hh (mkI52 w6 m1 h1') ⟨ExW.refl _ _ _, _, rfl, rfl⟩
        | 16, hi =>
          obtain rfl := Option.some.inj hi
          intro a w6 hE hoth hpre
          have g0 := hpre { on := 1, ground := .data } (by simp) rfl _ rfl
          have g1 := hpre { on := 5, ground := .data } (by simp) rfl _ rfl
          have g2 := hpre { on := 9, ground := .data } (by simp) rfl _ rfl
          have g3 := hpre { on := 13, ground := .data } (by simp) rfl _ rfl
          have g4 := hpre { on := 15, ground := .data } (by simp) rfl _ rfl
          exact wpo_build5 46 (.tmp 33) (.tmp 37) (.tmp 41) (.tmp 45) (.tmp 47) rfl _ _ _ _ _ g0 g1 g2 g3 g4 _ (build46 w6 _ _ _ _ _) ⟨ExW.refl _ _ _, _, rfl, rfl⟩
        | 17, hi =>
          obtain rfl := Option.some.inj hi
          intro a w6 hE hoth hpre
          exact wpo_move (.tmp 5) rfl _ (hoth 5 (by decide)) ⟨ExW.refl _ _ _, _, rfl, rfl⟩
        | 18, hi =>
          obtain rfl := Option.some.inj hi
          intro a w6 hE hoth hpre
          have hh := hpre { on := 16, ground := .data } (by simp) rfl _ rfl
          have hlR : w.heap.size + 1 < W4.heap.size := by omega
          have key : ∃ u0 u1 u2 u3 u4, w6.heap[w.heap.size + 1]? = some (.cells #[u0, u1, u2, u3, u4] 46 (0, 0)) := by
            rcases hE.here hlR with e | e
            · exact ⟨_, _, _, _, _, e.trans r4⟩
            · exact ⟨_, _, _, _, _, e⟩
          obtain ⟨u0, u1, u2, u3, u4, hu⟩ := key
          have hset := set5 hu (.iface 99 (.map m)) (.iface 66 (.agg #[.string s1, .string t1])) (.iface 66 (.agg #[.string s2, .string t2])) (.iface 66 (.agg #[.string s3, .string t3])) (.iface 52 (.agg #[.map m1, .int .u64 h1']))
          refine wpo_store 46 (.tmp 2) (.tmp 48) rfl _ (hoth 2 (by decide)) _ hh _ (store46 w6 _ hu _ _ _ _ _) ⟨⟨rfl, rfl, rfl, by simp, fun c hc _ => ?_, fun _ => .inr hset⟩, undef, rfl, hset⟩
          rw [Below.heap_setCell _ _ _ _ hc, Below.heap_setCell _ _ _ _ hc, Below.heap_setCell _ _ _ _ hc, Below.heap_setCell _ _ _ _ hc, Below.heap_setCell _ _ _ _ hc]
        | 19, hi =>
          obtain rfl := Option.some.inj hi
          intro a w6 hE hoth hpre
          have hh := hpre { on := 17, ground := .data } (by simp) rfl _ rfl
          exact wpo_assign (.tmp 49) rfl _ hh ⟨ExW.refl _ _ _, _, rfl, rfl⟩
        | i + 20, hi => simp at hi
      case done =>
        intro a1 W2 hF
        have hE2 := hF.ext
        have h18 : ΦW w.heap.size m s1 t1 s2 t2 s3 t3 m1 h1' gd (w.heap.size + 1) 18 undef W2 := hF.facts 18 _ rfl (by simp)
        have h19 : ΦW w.heap.size m s1 t1 s2 t2 s3 t3 m1 h1' gd (w.heap.size + 1) 19 (a1.tmps.getD 3 undef) W2 := facts_at hF 19 3 _ rfl rfl
        have hr2 : W2.heap[w.heap.size + 1]? = some (.cells #[.iface 99 (.map m), .iface 66 (.agg #[.string s1, .string t1]), .iface 66 (.agg #[.string s2, .string t2]), .iface 66 (.agg #[.string s3, .string t3]), .iface 52 (.agg #[.map m1, .int .u64 h1'])] 46 (0, 0)) := h18
        have hr3 : a1.tmps.getD 3 undef = .bool gd := h19
        have hb2 : Below w.heap.size w W2 := bo4.trans (hE2.toBelow (by omega) (by omega))
        have ha2 : a1.tmps.getD 2 undef = .pointer (some ⟨w.heap.size + 1, 0, none⟩) := hF.other 2 (by decide)
        have hd2 : a1.defers = [] := hF.defers
        clear hF h18 h19
        obtain ⟨tm, df⟩ := a1
        simp only at hd2 hr3 ha2
        subst hd2
        go_wp2
        try simp only [Exit.inBlock, Exit.then]
        exact w_end gd hr2 hb2 _ ha2 hr3 rfl (.inr ⟨m, _, _, _, _, rfl⟩)
    · have hgf : gd = false := by rw [hgd]; simp [hkd]
      clear hgd
      subst hgf
      have hkd' : decide (kd = 6) = false := by simp [hkd]
      go_wp2
      try simp only [Exit.inBlock, Exit.then]
      exact w_end false (set5 r2 .nilIface .nilIface .nilIface .nilIface .nilIface) (set5_below bo2 (by omega) _ _ _ _ _) _ rfl rfl rfl (.inl ⟨rfl, rfl⟩)
end Go.Proofs.Exp
