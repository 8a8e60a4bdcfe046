/- Part of the proof of FnAuthorizeNone: without policies no request is allowed; for every world that comes in. -/
import Derived.Test.YtaigmemiklfjoaaGreatDoorZIter93
import Derived.Maps.Own
set_option linter.unusedSimpArgs false
set_option linter.unusedVariables false
set_option linter.unnecessarySimpa false
namespace Go.Proofs.Exp
open Go.RowKit Go.Maps Go.WideMaps
set_option linter.unusedVariables false
def R1 (_ : Value) : Option (DataW Unit × List MemPlace) := some (.map [], [])
/-- A map from texts that is being written: what the library's contracts ask of it, and what its values are. -/
def OwnM (w : World) (b : Nat) (V : Value → Prop) (n : Nat) : Prop := (∃ D : DataW Unit, w.ownsMap Tryz.prog 64 R1 b n D) ∧ MapHas w b KS V n
theorem OwnM.made (w : World) (V : Value → Prop) : OwnM (w.alloc (.map #[] 0)) w.heap.size V 0 := ⟨⟨_, World.ownsMap_made w _ _ _⟩, MapHas.made w KS V⟩
theorem OwnM.kept {w w' : World} {b : Nat} {V : Value → Prop} {n : Nat} (h : OwnM w b V n) (he : w'.heap[b]? = w.heap[b]?) : OwnM w' b V n := by
  obtain ⟨⟨D, es, clock, hb, r⟩, hm⟩ := h
  exact ⟨⟨D, es, clock, he.trans hb, r⟩, hm.kept he⟩
theorem OwnM.below {w w' : World} {b B : Nat} {V : Value → Prop} {n : Nat} (h : OwnM w b V n) (hB : Below B w w') (hb : b < B) : OwnM w' b V n := h.kept (hB.block b hb)
theorem OwnM.weaken {w : World} {b : Nat} {V V' : Value → Prop} {n n' : Nat} (h : OwnM w b V n) (hn : n ≤ n') (hV : ∀ v, V v → V' v) : OwnM w b V' n' := by
  obtain ⟨⟨D, hD⟩, hm⟩ := h
  exact ⟨⟨D, hD.mono hn⟩, hm.weaken hn (fun _ h => h) hV⟩
theorem keyOf64 (s : ByteArray) (hs : s.size ≤ 140737488351232) : keyOf Tryz.prog 64 (.string s) = some (.string s.data.toList) := by
  exact keyOf_string_mk u64T (by unfold maxLen; omega)
set_option maxRecDepth 20000 in
theorem wpList_updo {ops : Array Oper} {rest : List Oper} {o : Oper} {a : Act} {w : World} {Q : Exit → Act → World → Prop}
    (hgd : o.guard = none) (m k x : Operand) (ho : o.op = .mapUpdate 49 m k x)
    (b : Nat) (hm : a.eval m = .map (some b)) (s : ByteArray) (xv : Value) (hkv : a.eval k = .string s) (hxv : a.eval x = xv)
    (V : Value → Prop) (n : Nat) (hn : n ≤ 140737488351232) (hmap : OwnM w b V n) (hs : s.size ≤ 140737488351232) (hv : V xv)
    (h : ∀ w', OwnM w' b V (n + 1) → w'.heap.size = w.heap.size → (∀ c, c ≠ b → w'.heap[c]? = w.heap[c]?) → (∀ p, w'.cell? p = w.cell? p) → (∀ p, w'.frozen? p = w.frozen? p) → (∀ B, B ≤ b → Below B w w') →
      wpList Tryz.prog ops Q rest (a.put o.dst undef) w') : wpList Tryz.prog ops Q (o :: rest) a w := by
  refine wpList_plain hgd fun K' hK' => ?_
  unfold Oper.wp
  obtain ⟨⟨D, hD⟩, hmh⟩ := hmap
  obtain ⟨w', hr, h1, h2, h3, h4, h5, h6⟩ := run_upd (P := Tryz.prog) u49T u64T (.inl rfl) hmh (k := .string s) (v := xv) (fun k' hk' => pk_KS s k' hk') (by simp [Instr.sameBits, ba_beq]) ⟨s, rfl, hs⟩ hv
  obtain ⟨w'', hr', g1, _⟩ := hD.update (string_keyed u64T) u49T (by unfold maxLen; omega) (keyOf64 s hs) (val := xv) (d := .map []) (ps := []) rfl
  have e : w'' = w' := by have h9 := hr.symm.trans hr'; exact (Result.ok.inj h9).2.symm
  subst e
  simp only [execOp, ho, hm, hkv, hxv, Sem.run_bind, hr, Result.andThen_ok, Sem.run_pure, Oper.upon]
  exact hK' _ _ (h _ ⟨⟨_, g1⟩, h1⟩ h2 h3 h4 h5 h6)
end Go.Proofs.Exp
namespace Go.Proofs.Exp
open Go.RowKit
set_option linter.unusedVariables false
def GivesB (w : World) (v : Value) (e : Ending) (w' : World) : Prop := e = .returned v ∧ Below w.heap.size w w'
theorem load1 {P : Program} {t : TypeId} (b : Nat) (w : World) (v0 : Value) (ha : (isAgg t).run P w = .ok true w) (hs : (sizeOf t).run P w = .ok 1 w) (h0 : w.cell? ⟨b, 0, none⟩ = some v0) :
    (loadVar t ⟨b, 0, none⟩).run P w = .ok (.agg #[v0]) w := by
  simp only [loadVar, Sem.run_bind, ha, hs, Result.andThen_ok, Sem.run_pure, if_true]
  simp [loadCells, go_sem, h0]
theorem load2 {P : Program} {t : TypeId} (b : Nat) (w : World) (v0 v1 : Value) (ha : (isAgg t).run P w = .ok true w) (hs : (sizeOf t).run P w = .ok 2 w) (h0 : w.cell? ⟨b, 0, none⟩ = some v0) (h1 : w.cell? ⟨b, 1, none⟩ = some v1) :
    (loadVar t ⟨b, 0, none⟩).run P w = .ok (.agg #[v0, v1]) w := by
  simp only [loadVar, Sem.run_bind, ha, hs, Result.andThen_ok, Sem.run_pure, if_true]
  simp [loadCells, go_sem, h0, h1]
theorem blk1 {w : World} {b : Nat} {c : Array Value} {e : TypeId} {f : Nat × Nat} (h : w.heap[b]? = some (.cells c e f)) (i : Nat) : w.cell? ⟨b, i, none⟩ = c[i]? := by simp [World.cell?, h]
theorem mk_dec (n : Int) (w : World) : Calls Tryz.prog 52 #[.int .i64 n] w (GivesB w (.agg #[.int .i64 n])) := by
  go_enter Tryz.func52, Tryz.ntmps52
  go_wp2
  try simp only [Exit.inBlock, Exit.then]
  refine bodyPost_ret (results_cell (a := 2) (t := 183) (by kernel_rfl) _ ⟨w.heap.size, 0, none⟩ rfl _ _ (load1 _ _ _ (by kernel_rfl) (by kernel_rfl) (blk1 (heap_alloc_new _ _) 0))) rfl ?_
  exact ⟨rfl, below_refl_alloc w _⟩
theorem mk_dt (n : Int) (w : World) : Calls Tryz.prog 53 #[.int .i64 n] w (GivesB w (.agg #[.int .i64 n])) := by
  go_enter Tryz.func53, Tryz.ntmps53
  go_wp2
  try simp only [Exit.inBlock, Exit.then]
  refine bodyPost_ret (results_cell (a := 2) (t := 185) (by kernel_rfl) _ ⟨w.heap.size, 0, none⟩ rfl _ _ (load1 _ _ _ (by kernel_rfl) (by kernel_rfl) (blk1 (heap_alloc_new _ _) 0))) rfl ?_
  exact ⟨rfl, below_refl_alloc w _⟩
theorem mk_dur (n : Int) (w : World) : Calls Tryz.prog 54 #[.int .i64 n] w (GivesB w (.agg #[.int .i64 n])) := by
  go_enter Tryz.func54, Tryz.ntmps54
  go_wp2
  try simp only [Exit.inBlock, Exit.then]
  refine bodyPost_ret (results_cell (a := 2) (t := 187) (by kernel_rfl) _ ⟨w.heap.size, 0, none⟩ rfl _ _ (load1 _ _ _ (by kernel_rfl) (by kernel_rfl) (blk1 (heap_alloc_new _ _) 0))) rfl ?_
  exact ⟨rfl, below_refl_alloc w _⟩
theorem new_uid (s t : ByteArray) (w : World) : Calls Tryz.prog 29 #[.string s, .string t] w (GivesB w (.agg #[.string s, .string t])) := by
  go_enter Tryz.func29, Tryz.ntmps29
  go_wp2
  try simp only [Exit.inBlock, Exit.then]
  have hh := heap_alloc_new w (.cells #[.string s, .string t] 66)
  refine bodyPost_ret (results_cell (a := 4) (t := 66) (by kernel_rfl) _ ⟨w.heap.size, 0, none⟩ rfl _ _ (load2 _ _ _ _ (by kernel_rfl) (by kernel_rfl) (blk1 hh 0) (blk1 hh 1))) rfl ?_
  exact ⟨rfl, below_refl_alloc w _⟩
theorem uid_c (s t : ByteArray) (w : World) : Calls Tryz.prog 14 #[.agg #[.string s, .string t]] w (GivesB w (.agg #[.string s, .string t])) := by
  go_enter Tryz.func14, Tryz.ntmps14
  go_wp2_with fail
  refine (new_uid s t _).mono ?_
  rintro e w2 ⟨rfl, hb⟩
  have h0 : w2.heap[w.heap.size + 1]? = some (.cells #[.string ⟨#[]⟩, .string ⟨#[]⟩] 66 (0, 0)) := by
    rw [hb.block _ (by simp)]
    have := heap_alloc_new (w.alloc (.cells #[.string s, .string t] 24)) (.cells #[.string ⟨#[]⟩, .string ⟨#[]⟩] 66)
    simpa using this
  have hbw : Below w.heap.size w w2 := ((below_refl_alloc w _).alloc (by simp) _).trans (hb.mono (by simp; omega))
  clear hb
  have c0 := blk1 h0 0
  have c1 := blk1 h0 1
  have f0 : w2.frozen? ⟨w.heap.size + 1, 0, none⟩ = false := by simp [World.frozen?, h0]
  have f1 : w2.frozen? ⟨w.heap.size + 1, 1, none⟩ = false := by simp [World.frozen?, h0]
  go_wp2
  try simp only [Exit.inBlock, Exit.then]
  have hh := setCell_here (o := 1) (setCell_here (o := 0) h0 (.string s)) (.string t)
  refine bodyPost_ret (results_cell (a := 2) (t := 66) (by kernel_rfl) _ ⟨w.heap.size + 1, 0, none⟩ rfl _ _ (load2 _ _ _ _ (by kernel_rfl) (by kernel_rfl) (blk1 hh 0) (blk1 hh 1))) rfl ?_
  exact ⟨rfl, (hbw.setCell (by simp) _).setCell (by simp) _⟩
end Go.Proofs.Exp
namespace Go.Proofs.Exp
open Go.RowKit
set_option linter.unusedVariables false
def App8 (w : World) (e : Ending) (w' : World) : Prop := ∃ (g cap : Nat) (bs : Nat → Int), e = .returned (.slice (some ⟨g, 0, none⟩) 8 cap) ∧ w.heap.size ≤ g ∧ g < w'.heap.size ∧ Below w.heap.size w w' ∧ ∀ i, i < 8 → w'.cell? ⟨g, i, none⟩ = some (.int .u8 (bs i))
theorem u199T' : Tryz.prog.underlying 199 = some (.slice 5) := by kernel_rfl
set_option maxRecDepth 10000 in
set_option maxHeartbeats 1000000 in
theorem app64 (x : Int) (w : World) : Calls Tryz.prog 59 #[.agg #[], .slice none 0 0, .int .u64 x] w (App8 w) := by
  go_enter Tryz.func59, Tryz.ntmps59
  go_wp2_with fail
  go_ret
  obtain ⟨w1, hw1⟩ : ∃ w1, (w.alloc (.cells #[] 201)) = w1 := ⟨_, rfl⟩
  rw [hw1]
  have hb1 : Below w.heap.size w w1 := hw1 ▸ below_refl_alloc w _
  have hs1 : w1.heap.size = w.heap.size + 1 := by rw [← hw1]; simp
  clear hw1
  refine ⟨w.heap.size + 1 + 1, _, fun i => match i with | 0 => x % 256 | 1 => x / 256 % 256 | 2 => x / 65536 % 256 | 3 => x / 16777216 % 256 | 4 => x / 4294967296 % 256 | 5 => x / 1099511627776 % 256 | 6 => x / 281474976710656 % 256 | _ => x / 72057594037927936 % 256, rfl, by omega, ?_, ?_, ?_⟩
  · simp [World.drew, hs1]
  · exact (((hb1.alloc (by omega) _).alloc (by simp; omega) _).drew)
  · intro i hi
    rw [show ∀ w : World, w.drew.cell? = w.cell? from fun _ => rfl]
    have hh := heap_alloc_new (w1.alloc (.cells #[.int .u8 (x % 256), .int .u8 (x / 256 % 256), .int .u8 (x / 65536 % 256), .int .u8 (x / 16777216 % 256), .int .u8 (x / 4294967296 % 256), .int .u8 (x / 1099511627776 % 256), .int .u8 (x / 281474976710656 % 256), .int .u8 (x / 72057594037927936 % 256)] 5)) (.cells (#[.int .u8 (x % 256), .int .u8 (x / 256 % 256), .int .u8 (x / 65536 % 256), .int .u8 (x / 16777216 % 256), .int .u8 (x / 4294967296 % 256), .int .u8 (x / 1099511627776 % 256), .int .u8 (x / 281474976710656 % 256), .int .u8 (x / 72057594037927936 % 256)] ++ Builtin.zeroCells #[.int .u8 0] ((Question.appendCap 8 0 5).cut (w.tape w.drawn (Question.appendCap 8 0 5)) - 8)) 5)
    simp only [World.size_alloc, hs1] at hh
    rw [blk1 hh]
    rw [Array.getElem?_append_left (by simpa using hi)]
    match i, hi with
    | 0, _ => rfl
    | 1, _ => rfl
    | 2, _ => rfl
    | 3, _ => rfl
    | 4, _ => rfl
    | 5, _ => rfl
    | 6, _ => rfl
    | 7, _ => rfl
end Go.Proofs.Exp
