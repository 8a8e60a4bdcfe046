/- Part of the proof of FnAuthorizeNone: without policies no request is allowed; for every world that comes in. -/
import Derived.Test.YtaigmemiklfjoaaGreatDoorZUid
set_option linter.unusedSimpArgs false
set_option linter.unusedVariables false
set_option linter.unnecessarySimpa false
namespace Go.Proofs.Exp
open Go.RowKit
set_option linter.unusedVariables false
section
variable {P : Program} {ops : Array Oper} {Q : Exit → Act → World → Prop}
theorem ready_all : Region.ready .any ops (Array.replicate ops.size true) = [] := by
  unfold Region.ready
  rw [List.filter_eq_nil_iff]
  intro i hi
  simp at hi
  simp [Array.getD, hi]
theorem wpAny_done (fuel : Nat) {a : Act} {w : World} (h : Q .normal a w) : wpAny P .any ops Q fuel (Array.replicate ops.size true) a w := by
  cases fuel with
  | zero => exact ⟨ready_all, h⟩
  | succ fuel => exact ⟨fun _ => h, fun i hi => by rw [ready_all] at hi; cases hi⟩
theorem count_set : ∀ (l : List Bool) (k : Nat) (hk : k < l.length), l[k] = false → ((l.set k true).filter (! ·)).length + 1 = (l.filter (! ·)).length := by
  intro l
  induction l with
  | nil => intro k hk; simp at hk
  | cons b l ihl =>
    intro k hk hb
    cases k with
    | zero => simp at hb; subst hb; simp
    | succ k =>
      simp only [List.set_cons_succ, List.filter_cons]
      have := ihl k (by simpa using hk) (by simpa using hb)
      cases b <;> simp <;> omega
theorem wpAny_last {a0 : Act} {w0 : World} {E : World → World → Prop} {Φ : Nat → Value → World → Prop} (hok : Region.OK ops a0.tmps.size) (hT : ∀ a b c, E a b → E b c → E a c)
    (hΦ : ∀ j v w w', E w w' → Φ j v w → Φ j v w') (L : Nat) (oL : Oper) (hL : ops[L]? = some oL) (hsz : ops.size = L + 1) (hall : ∀ j, j < L → ∃ e ∈ oL.after.toList, Region.binds .any e = true ∧ e.on = j)
    (hop : ∀ i o, i < L → ops[i]? = some o → OpDoes P ops Q a0 w0 E Φ i o)
    (hlast : ∀ listed a w, Facts ops a0 w0 E Φ listed a w → (∀ j, j < L → listed.getD j false = true) → oL.wp P a w (fun a' w' => Q .normal a' w') Q) :
    ∀ (fuel : Nat) (listed : Array Bool) (a : Act) (w : World), listed.size = ops.size → listed.getD L false = false → (listed.toList.filter (! ·)).length ≤ fuel → Facts ops a0 w0 E Φ listed a w → wpAny P .any ops Q fuel listed a w := by
  intro fuel
  induction fuel with
  | zero =>
    intro listed a w hs hl hf h
    exfalso
    have h0 : listed.toList.filter (! ·) = [] := List.eq_nil_of_length_eq_zero (by omega)
    rw [List.filter_eq_nil_iff] at h0
    have hlt : L < listed.size := by omega
    have h1 : listed[L] = false := by simpa [Array.getD, hlt] using hl
    have := h0 listed[L] (by simp)
    rw [h1] at this
    simp at this
  | succ fuel ih =>
    intro listed a w hs hl hf h
    have hlt : L < listed.size := by omega
    refine ⟨fun hr => ?_, fun i hi => ?_⟩
    · have := hok.acyc listed hs hr
      subst this
      have hlt' : L < ops.size := by omega
      simp [Array.getD, hlt'] at hl
    · rw [mem_ready] at hi
      obtain ⟨hni, o, ho, hedges⟩ := hi
      unfold wpOp
      simp only [ho]
      have hmemo : o ∈ ops.toList := List.mem_of_getElem? (by simpa using ho)
      have hw : Region.wanted o (yielded ops a.tmps) = true := by simp [Region.wanted, hok.guard o hmemo]
      rw [if_pos hw]
      have hilt : i < listed.size := by
        rcases Nat.lt_or_ge i listed.size with h | h
        · exact h
        · simp [Array.getD, Nat.not_lt.2 h] at hni
      by_cases hiL : i = L
      · subst hiL
        rw [hL] at ho
        obtain rfl := Option.some.inj ho
        have hbef : ∀ j, j < i → listed.getD j false = true := by
          intro j hj
          obtain ⟨e, he, hb, rfl⟩ := hall j hj
          exact hedges e (by simpa using he) hb
        have hnew : listed.setIfInBounds i true = Array.replicate ops.size true := by
          apply Array.ext
          · simp [hs]
          · intro j h1 h2
            have hj : j < listed.size := by simpa using h1
            by_cases hne : i = j
            · subst hne; simp
            · have h3 := hbef j (by omega)
              have h4 : listed[j] = true := by simpa [Array.getD, hj] using h3
              simp [Array.getElem_setIfInBounds_ne, hj, hne, h4]
        refine .inl (Oper.wp_mono ?_ (hlast listed a w h hbef))
        intro a' w' hq
        rw [hnew]
        exact wpAny_done fuel hq
      · refine .inl (Oper.wp_mono ?_ (hop i o (by omega) ho a w h.ext h.other (fun e he hb oj hoj => h.facts _ _ hoj (hedges e (by simpa using he) hb))))
        rintro a' w' ⟨hE, v, rfl, hv⟩
        have hfalse : listed[i] = false := by simpa [Array.getD, hilt] using hni
        refine ih _ _ _ (by simp [hs]) ?_ ?_ (h.step hok hT hΦ ho hni hE v hv)
        · have h4 : listed[L] = false := by simpa [Array.getD, hlt] using hl
          simp [Array.getD, Array.getElem_setIfInBounds_ne, hlt, hiL, h4]
        · have := count_set listed.toList i (by simpa using hilt) (by simpa using hfalse)
          simp only [Array.toList_setIfInBounds]
          omega
theorem wp_region_last {id : Nat} {a0 : Act} {w0 : World} (hm : P.follows .mixedOrders = true) (hokb : regionOKb ops a0.tmps.size = true) (L : Nat) (oL : Oper) (hL : ops[L]? = some oL) (hsz : ops.size = L + 1)
    (hallb : (List.range L).all (fun j => oL.after.toList.any fun e => Region.binds .any e && decide (e.on = j)) = true)
    (E : World → World → Prop) (Φ : Nat → Value → World → Prop) (hE0 : E w0 w0.drew) (hT : ∀ a b c, E a b → E b c → E a c) (hΦ : ∀ j v w w', E w w' → Φ j v w → Φ j v w')
    (hop : ∀ i o, i < L → ops[i]? = some o → OpDoes P ops Q a0 w0 E Φ i o)
    (hlast : ∀ listed a w, Facts ops a0 w0 E Φ listed a w → (∀ j, j < L → listed.getD j false = true) → oL.wp P a w (fun a' w' => Q .normal a' w') Q) : (Code.region id ops true).wp P Q a0 w0 := by
  have hall : ∀ j, j < L → ∃ e ∈ oL.after.toList, Region.binds .any e = true ∧ e.on = j := by
    intro j hj
    have := List.all_eq_true.1 hallb j (List.mem_range.2 hj)
    obtain ⟨e, he, hb⟩ := List.any_eq_true.1 this
    simp only [Bool.and_eq_true, decide_eq_true_eq] at hb
    exact ⟨e, he, hb.1, hb.2⟩
  refine wp_region_any hm (wpAny_last (regionOK_of hokb).1 hT hΦ L oL hL hsz hall hop hlast _ _ _ _ (by simp) ?_ (by simp) ?_)
  · simp [Array.getD]
  · exact ⟨hE0, rfl, rfl, fun _ _ => rfl, fun j o _ hl => by simp [Array.getD] at hl⟩
end
end Go.Proofs.Exp
namespace Go.Proofs.Exp
open Go.RowKit
set_option linter.unusedVariables false
attribute [local go_sem] Oper.semAt_some
/-- Nothing has turned but the map at b, and new blocks. -/
structure ExB (b : Nat) (w w' : World) : Prop where
  os : w'.os = w.os
  tape : w'.tape = w.tape
  output : w'.output = w.output
  size : w.heap.size ≤ w'.heap.size
  other : ∀ c, c ≠ b → c < w.heap.size → w'.heap[c]? = w.heap[c]?
theorem ExB.refl (b : Nat) (w : World) : ExB b w w := ⟨rfl, rfl, rfl, Nat.le_refl _, fun _ _ _ => rfl⟩
theorem ExB.trans {b : Nat} {u v w : World} (h : ExB b u v) (k : ExB b v w) : ExB b u w :=
  ⟨k.os.trans h.os, k.tape.trans h.tape, k.output.trans h.output, Nat.le_trans h.size k.size, fun c hc hl => (k.other c hc (Nat.lt_of_lt_of_le hl h.size)).trans (h.other c hc hl)⟩
theorem ExB.below {b : Nat} {u v : World} (h : Below u.heap.size u v) : ExB b u v := ⟨h.os, h.tape, h.output, h.size, fun c _ hl => h.block c hl⟩
theorem ExB.grown {b : Nat} {u v : World} (h : u.grownBy v (some b)) : ExB b u v := ⟨h.os, h.tape, h.output, h.size, fun c hc hl => h.block c hl (fun e => hc (Option.some.inj e))⟩
theorem ExB.toBelow {b B : Nat} {u v : World} (h : ExB b u v) (h1 : B ≤ b) (h2 : B ≤ u.heap.size) : Below B u v := ⟨h.os, h.tape, h.output, h.size, fun k hk => h.other k (by omega) (by omega)⟩
section
variable {P : Program} {o : Oper} {a : Act} {w : World} {K : Act → World → Prop} {Q : Exit → Act → World → Prop}
theorem wpo_nilCheck_ptr (x : Operand) (ho : o.op = .nilCheck x) (p : Addr) (hx : a.eval x = .pointer (some p)) (h : K (a.put o.dst (.pointer (some p))) w) : o.wp P a w K Q := by
  unfold Oper.wp; simp only [execOp, ho, hx, Sem.run_pure, Oper.upon]; exact h
theorem wpo_alloc (t : TypeId) (ho : o.op = .alloc t) (v : Value) (w' : World) (hr : (execOp a.eval o).run P w = .ok (.value v) w') (h : K (a.put o.dst v) w') : o.wp P a w K Q := by
  unfold Oper.wp; rw [hr]; exact h
theorem wpo_mapUpdate (t : TypeId) (m k x : Operand) (ho : o.op = .mapUpdate t m k x) (mv kv xv : Value) (hm : a.eval m = mv) (hk : a.eval k = kv) (hx : a.eval x = xv) (w' : World) (hr : (Instr.mapUpdate t mv kv xv).run P w = .ok () w') (h : K (a.put o.dst undef) w') : o.wp P a w K Q := by
  unfold Oper.wp; simp only [execOp, ho, hm, hk, hx, Sem.run_bind, hr, Result.andThen_ok, Sem.run_pure, Oper.upon]; exact h
theorem wpo_lookr (t : TypeId) (m k : Operand) (ok : Bool) (ho : o.op = .lookup t m k ok) (mv kv v : Value) (hm : a.eval m = mv) (hk : a.eval k = kv) (hr : (Instr.lookup t mv kv ok).run P w = .ok v w) (h : K (a.put o.dst v) w) : o.wp P a w K Q := by
  unfold Oper.wp; simp only [execOp, ho, hm, hk, Sem.run_bind, hr, Result.andThen_ok, Sem.run_pure, Oper.upon]; exact h
end
theorem store200 (w : World) (q : Addr) : (Instr.storeAt 200 (.pointer (some q)) (.agg #[])).run Tryz.prog w = .ok () w := by kernel_rfl
theorem load200 (w : World) (q : Addr) : (Instr.loadAt 200 (.pointer (some q))).run Tryz.prog w = .ok (.agg #[]) w := by kernel_rfl
theorem load66 (w : World) (b : Nat) (s t : ByteArray) (h0 : w.cell? ⟨b, 0, none⟩ = some (.string s)) (h1 : w.cell? ⟨b, 1, none⟩ = some (.string t)) : (Instr.loadAt 66 (.pointer (some ⟨b, 0, none⟩))).run Tryz.prog w = .ok (.agg #[.string s, .string t]) w := by
  go_simp
theorem load168 (w : World) (b : Nat) (v : Value) (h0 : w.cell? ⟨b, 0, none⟩ = some v) : (Instr.loadAt 168 (.pointer (some ⟨b, 0, none⟩))).run Tryz.prog w = .ok v w := by
  go_simp
theorem field318 (w : World) (b : Nat) : (Instr.fieldAt 318 (.pointer (some ⟨b, 0, none⟩)) 0).run Tryz.prog w = .ok (.pointer (some ⟨b, 0, none⟩)) w := by
  kernel_rfl
theorem frame2 {ops : Array Oper} {a0 : Act} {w0 : World} {E : World → World → Prop} {Φ : Nat → Value → World → Prop} {listed : Array Bool} {a : Act} {w : World} (h : Facts ops a0 w0 E Φ listed a w) :
    ∃ vs : Nat → Value, a = { tmps := a0.tmps.mapIdx fun i x => if (dstsOf ops).contains i then vs i else x, defers := a0.defers } ∧ ∀ i, vs i = a.tmps.getD i undef := by
  refine ⟨fun i => a.tmps.getD i undef, ?_, fun _ => rfl⟩
  · obtain ⟨t, ds⟩ := a
    have hs := h.size
    have hd := h.defers
    have ho := h.other
    simp only at hs hd ho ⊢
    subst hd
    congr 1
    apply Array.ext
    · simp [hs]
    · intro i h1 h2
      simp only [Array.getElem_mapIdx]
      split
      · simp [Array.getD, h1]
      · rename_i hc
        have := ho i (by simpa using hc)
        simp only [Array.getD, h1, dif_pos] at this
        rw [hs] at h1
        simpa [h1] using this
theorem facts_at {ops : Array Oper} {a0 : Act} {w0 : World} {E : World → World → Prop} {Φ : Nat → Value → World → Prop} {a : Act} {w : World} (h : Facts ops a0 w0 E Φ (Array.replicate ops.size true) a w) (i : Nat) (d : Tmp) (o : Oper) (ho : ops[i]? = some o) (hd : o.dst = some d) : Φ i (a.tmps.getD d undef) w := by
  have hi : i < ops.size := (Array.getElem?_eq_some_iff.1 ho).1
  have h1 := h.facts i o ho (by simp [Array.getD, hi])
  unfold valOf at h1
  rw [hd] at h1
  exact h1
def ΦA (hb b : Nat) (s t : ByteArray) (i : Nat) (u : Value) (_ : World) : Prop :=
  match i with
  | 0 => u = .pointer (some ⟨hb, 0, none⟩)
  | 1 => u = .pointer (some ⟨hb, 0, none⟩)
  | 2 => u = .pointer (some ⟨hb, 0, none⟩)
  | 3 => u = .map (some b)
  | 4 => u = .agg #[.string s, .string t]
  | 5 => ∃ r : Bool, u = .tuple #[.agg #[], .bool r]
  | 6 => ∃ r : Bool, u = .tuple #[.agg #[], .bool r]
  | 7 => u = .agg #[]
  | 8 => ∃ r : Bool, u = .bool r
  | 9 => ∃ q, u = .pointer (some q)
  | 11 => ∃ r : Bool, u = .bool r
  | _ => True
def ΦB (hb b : Nat) (s t : ByteArray) (n : Nat) (i : Nat) (u : Value) (_ : World) : Prop :=
  match i with
  | 0 => u = .pointer (some ⟨hb, 0, none⟩)
  | 1 => u = .pointer (some ⟨hb, 0, none⟩)
  | 2 => u = .pointer (some ⟨hb, 0, none⟩)
  | 3 => u = .map (some b)
  | 4 => u = .agg #[.string s, .string t]
  | 5 => u = .agg #[]
  | _ => True
def AddPost (b n : Nat) (w : World) (e : Ending) (w' : World) : Prop := (∃ r : Bool, e = .returned (.bool r)) ∧ OwnU w' b (n + 1) ∧ ExB b w w'
set_option maxRecDepth 20000 in
set_option maxHeartbeats 1600000 in
theorem add152 (hb b n : Nat) (s t : ByteArray) (w : World) (hs : s.size ≤ 140737488351232) (ht : t.size ≤ 140737488351232) (hp : w.heap[hb]? = some (.cells #[.map (some b)] 318 (0, 0))) (hm : OwnU w b n) (hn : n ≤ 140737488351232) :
    Calls Tryz.prog 152 #[.pointer (some ⟨hb, 0, none⟩), .agg #[.string s, .string t]] w (AddPost b n w) := by
  have hbl := hm.lt
  have hbb : b ≠ hb := by
    rintro rfl
    obtain ⟨D, es, clock, h1, _⟩ := hm
    rw [hp] at h1; cases h1
  have hhl : hb < w.heap.size := (Array.getElem?_eq_some_iff.1 hp).1
  have hne : ∀ w, (binOp .eql 168 (.map (some b)) (.map none)).run Tryz.prog w = .ok (.bool false) w := fun w => run_eql_map_nil_sl w 168 66 200 (some b) u168T
  have hc := blk1 hp 0
  go_enter Tryz.func152, Tryz.ntmps152
  go_wp2_with fail
  obtain ⟨W1, hW1⟩ : ∃ W1, w.alloc (.cells #[.string s, .string t] 66) = W1 := ⟨_, rfl⟩
  rw [hW1]
  have b1 : Below w.heap.size w W1 := by rw [← hW1]; exact below_refl_alloc w _
  have n1 : W1.heap[w.heap.size]? = some (.cells #[.string s, .string t] 66 (0, 0)) := by rw [← hW1]; exact heap_alloc_new w _
  have s1 : W1.heap.size = w.heap.size + 1 := by rw [← hW1]; simp
  clear hW1
  have p1 := (b1.block hb hhl).trans hp
  have m1 := hm.kept (b1.block b hbl)
  clear hm hp hc hne
  refine wp_region_F (by kernel_rfl) (by kernel_rfl) (Below W1.heap.size) (ΦA hb b s t) ?e0 (fun a b c h k => h.trans k) ?hphi ?hop ?done
  case e0 => exact (Below.refl _ _).drew
  case hphi => intro j u w1 w2 _ h; exact h
  case hop =>
    intro i o hi
    match i, hi with
    | 0, hi =>
      obtain rfl := Option.some.inj hi
      intro a w2 hE hoth hpre
      exact wpo_move (.tmp 0) rfl _ (hoth 0 (by decide)) ⟨Below.refl _ _, _, rfl, rfl⟩
    | 1, hi =>
      obtain rfl := Option.some.inj hi
      intro a w2 hE hoth hpre
      have h1 := hpre { on := 0, ground := .data } (by simp) rfl _ rfl
      exact wpo_nilCheck_ptr (.tmp 17) rfl _ h1 ⟨Below.refl _ _, _, rfl, rfl⟩
    | 2, hi =>
      obtain rfl := Option.some.inj hi
      intro a w2 hE hoth hpre
      have h1 := hpre { on := 1, ground := .data } (by simp) rfl _ rfl
      exact wpo_fieldAddr 318 (.tmp 18) 0 rfl _ h1 _ (field318 w2 hb) ⟨Below.refl _ _, _, rfl, rfl⟩
    | 3, hi =>
      obtain rfl := Option.some.inj hi
      intro a w2 hE hoth hpre
      have h1 := hpre { on := 2, ground := .data } (by simp) rfl _ rfl
      have p2 := (hE.block hb (by omega)).trans p1
      exact wpo_load 168 (.tmp 19) rfl _ h1 _ (load168 w2 hb _ (blk1 p2 0)) ⟨Below.refl _ _, _, rfl, rfl⟩
    | 4, hi =>
      obtain rfl := Option.some.inj hi
      intro a w2 hE hoth hpre
      have p2 := (hE.block w.heap.size (by omega)).trans n1
      exact wpo_load 66 (.tmp 3) rfl _ (hoth 3 (by decide)) _ (load66 w2 _ s t (blk1 p2 0) (blk1 p2 1)) ⟨Below.refl _ _, _, rfl, rfl⟩
    | 5, hi =>
      obtain rfl := Option.some.inj hi
      intro a w2 hE hoth hpre
      have h1 := hpre { on := 3, ground := .data } (by simp) rfl _ rfl
      have h2 := hpre { on := 4, ground := .data } (by simp) rfl _ rfl
      have m2 := m1.kept (hE.block b (by omega))
      obtain ⟨r, hr⟩ := m2.look s t hs ht
      exact wpo_lookr 168 (.tmp 20) (.tmp 21) true rfl _ _ _ h1 h2 hr ⟨Below.refl _ _, _, rfl, r, rfl⟩
    | 6, hi =>
      obtain rfl := Option.some.inj hi
      intro a w2 hE hoth hpre
      obtain ⟨r, h1⟩ := hpre { on := 5, ground := .data } (by simp) rfl _ rfl
      exact wpo_move (.tmp 22) rfl _ h1 ⟨Below.refl _ _, _, rfl, r, rfl⟩
    | 7, hi =>
      obtain rfl := Option.some.inj hi
      intro a w2 hE hoth hpre
      obtain ⟨r, h1⟩ := hpre { on := 6, ground := .data } (by simp) rfl _ rfl
      exact wpo_extract (.tmp 16) 0 rfl _ (.agg #[]) h1 rfl ⟨Below.refl _ _, _, rfl, rfl⟩
    | 8, hi =>
      obtain rfl := Option.some.inj hi
      intro a w2 hE hoth hpre
      obtain ⟨r, h1⟩ := hpre { on := 6, ground := .data } (by simp) rfl _ rfl
      exact wpo_extract (.tmp 16) 1 rfl _ (.bool r) h1 rfl ⟨Below.refl _ _, _, rfl, r, rfl⟩
    | 9, hi =>
      obtain rfl := Option.some.inj hi
      intro a w2 hE hoth hpre
      exact wpo_alloc 200 rfl (.pointer (some ⟨w2.heap.size, 0, none⟩)) (w2.alloc (.cells #[] 200)) (by kernel_rfl) ⟨(Below.refl _ _).alloc hE.size _, _, rfl, _, rfl⟩
    | 10, hi =>
      obtain rfl := Option.some.inj hi
      intro a w2 hE hoth hpre
      obtain ⟨q, h1⟩ := hpre { on := 9, ground := .data } (by simp) rfl _ rfl
      have h2 := hpre { on := 7, ground := .data } (by simp) rfl _ rfl
      exact wpo_store 200 (.tmp 5) (.tmp 23) rfl _ h1 _ h2 _ (store200 w2 q) ⟨Below.refl _ _, undef, rfl, trivial⟩
    | 11, hi =>
      obtain rfl := Option.some.inj hi
      intro a w2 hE hoth hpre
      obtain ⟨r, h1⟩ := hpre { on := 8, ground := .data } (by simp) rfl _ rfl
      exact wpo_assign (.tmp 24) rfl _ h1 ⟨Below.refl _ _, _, rfl, r, rfl⟩
    | i + 12, hi => simp at hi
  case done =>
    intro a1 W2 hF
    have hE2 := hF.ext
    have h11 : ΦA hb b s t 11 (a1.tmps.getD 6 undef) W2 := facts_at hF 11 6 _ rfl rfl
    obtain ⟨r, hr⟩ := h11
    obtain ⟨vs, hae, hvs⟩ := frame2 hF
    have hr6 : vs 6 = .bool r := (hvs 6).trans hr
    clear hF hr hvs
    rw [hae]
    clear hae
    rw [show dstsOf _ = [17, 18, 19, 20, 21, 22, 16, 23, 24, 5, 6] from rfl]
    simp (config := { decide := true }) only [List.mapIdx_toArray, List.mapIdx_cons, List.mapIdx_nil, Nat.zero_add, Nat.reduceAdd, if_true, if_false, hr6]
    have p2 := (hE2.block hb (by omega)).trans p1
    have n2 := (hE2.block w.heap.size (by omega)).trans n1
    have m2 := m1.kept (hE2.block b (by omega))
    have b2 : Below w.heap.size w W2 := b1.trans (hE2.mono (by omega))
    have s2 := hE2.size
    clear p1 n1 m1 b1 hE2
    cases r with
    | true =>
      go_wp2
      go_ret
      refine ⟨⟨_, rfl⟩, m2.mono (by omega), ExB.below b2⟩
    | false =>
      go_wp2_with fail
      refine wp_region_last (by kernel_rfl) (by kernel_rfl) 6 _ rfl rfl (by kernel_rfl) (Below W2.heap.size) (ΦB hb b s t n) ?e0 (fun _ _ _ h k => h.trans k) ?hphi ?hop ?last
      case e0 => exact (Below.refl _ _).drew
      case hphi => intro j u w1 w2 _ h; exact h
      case hop =>
        intro i o hiL hi
        match i, hi with
        | 0, hi =>
          obtain rfl := Option.some.inj hi
          intro a w2 hE hoth hpre
          exact wpo_move (.tmp 0) rfl _ (hoth 0 (by decide)) ⟨Below.refl _ _, _, rfl, rfl⟩
        | 1, hi =>
          obtain rfl := Option.some.inj hi
          intro a w2 hE hoth hpre
          have h1 := hpre { on := 0, ground := .data } (by simp) rfl _ rfl
          exact wpo_nilCheck_ptr (.tmp 26) rfl _ h1 ⟨Below.refl _ _, _, rfl, rfl⟩
        | 2, hi =>
          obtain rfl := Option.some.inj hi
          intro a w2 hE hoth hpre
          have h1 := hpre { on := 1, ground := .data } (by simp) rfl _ rfl
          exact wpo_fieldAddr 318 (.tmp 27) 0 rfl _ h1 _ (field318 w2 hb) ⟨Below.refl _ _, _, rfl, rfl⟩
        | 3, hi =>
          obtain rfl := Option.some.inj hi
          intro a w2 hE hoth hpre
          have h1 := hpre { on := 2, ground := .data } (by simp) rfl _ rfl
          have p3 := (hE.block hb (by omega)).trans p2
          exact wpo_load 168 (.tmp 28) rfl _ h1 _ (load168 w2 hb _ (blk1 p3 0)) ⟨Below.refl _ _, _, rfl, rfl⟩
        | 4, hi =>
          obtain rfl := Option.some.inj hi
          intro a w2 hE hoth hpre
          have p3 := (hE.block w.heap.size (by omega)).trans n2
          exact wpo_load 66 (.tmp 3) rfl _ (hoth 3 (by decide)) _ (load66 w2 _ s t (blk1 p3 0) (blk1 p3 1)) ⟨Below.refl _ _, _, rfl, rfl⟩
        | 5, hi =>
          obtain rfl := Option.some.inj hi
          intro a w2 hE hoth hpre
          exact wpo_load 200 (.global 6) rfl _ rfl _ (load200 w2 _) ⟨Below.refl _ _, _, rfl, rfl⟩
        | i + 6, hi => omega
      case last =>
        intro listed a w3 hF hl
        have h3 : a.tmps.getD 29 undef = .map (some b) := hF.facts 3 _ rfl (hl 3 (by omega))
        have h4 : a.tmps.getD 30 undef = .agg #[.string s, .string t] := hF.facts 4 _ rfl (hl 4 (by omega))
        have h5 : a.tmps.getD 31 undef = .agg #[] := hF.facts 5 _ rfl (hl 5 (by omega))
        have hE3 := hF.ext
        have m3 := m2.kept (hE3.block b (by omega))
        obtain ⟨w4, hr4, m4, g4⟩ := m3.upd hn s t hs ht
        refine wpo_mapUpdate 168 (.tmp 29) (.tmp 30) (.tmp 31) rfl _ _ _ h3 h4 h5 w4 hr4 ?_
        obtain ⟨vs, rfl, hvs⟩ := frame2 hF
        have hEE : ExB b w w4 := (ExB.below b2).trans ((ExB.below hE3).trans (ExB.grown g4))
        clear hF hl h3 h4 h5 hvs hr4 m3 g4 hE3 m2 p2 n2 b2
        rw [show dstsOf _ = [26, 27, 28, 29, 30, 31] from rfl]
        simp (config := { decide := true }) only [List.mapIdx_toArray, List.mapIdx_cons, List.mapIdx_nil, Nat.zero_add, Nat.reduceAdd, if_true, if_false, Act.put]
        go_wp2
        go_ret
        exact ⟨⟨_, rfl⟩, m4, hEE⟩
end Go.Proofs.Exp
namespace Go.Proofs.Exp
open Go.RowKit
set_option linter.unusedVariables false
attribute [local go_sem] Oper.semAt_some
def MkPost (w : World) (e : Ending) (w' : World) : Prop := ∃ hb b, e = .returned (.pointer (some ⟨hb, 0, none⟩)) ∧ Below w.heap.size w w' ∧ w.heap.size ≤ hb ∧ w.heap.size ≤ b ∧ w'.heap[hb]? = some (.cells #[.map (some b)] 318 (0, 0)) ∧ OwnU w' b 0
set_option maxRecDepth 20000 in
set_option maxHeartbeats 1600000 in
theorem make151 (b off n : Nat) (w : World) (hc : w.cell? ⟨b, off, none⟩ = some (.int .i64 n)) :
    Calls Tryz.prog 151 #[.slice (some ⟨b, off, none⟩) 1 1] w (MkPost w) := by
  have hmm := run_makeMap_n 168 66 200 u168T n
  go_enter Tryz.func151, Tryz.ntmps151
  go_wp2
  go_ret
  refine ⟨w.heap.size + 1, w.heap.size, rfl, (below_refl_alloc w _).alloc (by simp) _, by omega, by omega, ?_, ?_⟩
  · have := heap_alloc_new (w.alloc (.map #[] 0)) (.cells #[.map (some w.heap.size)] 318)
    simpa using this
  · exact (OwnU.made w).kept (Below.heap_alloc _ _ _ (by simp))
/-- A row of identifiers, of two cells each. -/
def UidRow (w : World) (B n : Nat) (p : Option Addr) (ss ts : Nat → ByteArray) : Prop :=
  n * 32 ≤ 140737488351232 ∧ ∃ b off, (0 < n → p = some ⟨b, off, none⟩ ∧ b < B) ∧
    ∀ i, i < n → w.cell? ⟨b, off + i * 2, none⟩ = some (.string (ss i)) ∧ w.cell? ⟨b, off + i * 2 + 1, none⟩ = some (.string (ts i)) ∧ (ss i).size ≤ 140737488351232 ∧ (ts i).size ≤ 140737488351232
def FiPost (w : World) (e : Ending) (w' : World) : Prop := ∃ hb b, e = .returned (.pointer (some ⟨hb, 0, none⟩)) ∧ Below w.heap.size w w' ∧ w'.heap[hb]? = some (.cells #[.map (some b)] 318 (0, 0))
def FiRel (w : World) (n hb b : Nat) (i : Value) (wr : World) : Prop :=
  ∃ k : Nat, k ≤ n ∧ i = .int .i64 k ∧ OwnU wr b k ∧ wr.heap[hb]? = some (.cells #[.map (some b)] 318 (0, 0)) ∧ Below w.heap.size w wr
set_option maxRecDepth 20000 in
set_option maxHeartbeats 1600000 in
theorem fromItems (n c : Nat) (p : Option Addr) (ss ts : Nat → ByteArray) (w : World) (h : UidRow w w.heap.size n p ss ts) :
    Calls Tryz.prog 92 #[.slice p n c] w (FiPost w) := by
  obtain ⟨hn, b0, off, hp, hc⟩ := h
  go_enter Tryz.func92, Tryz.ntmps92
  go_wp2_with fail
  refine (make151 w.heap.size 0 n _ (blk1 (heap_alloc_new w (.cells #[.int .i64 n] 3)) 0)).mono ?_
  rintro e w2 ⟨hb, b, rfl, hb2, h1, h2, h3, h4⟩
  simp only [World.size_alloc] at h1 h2
  have hbw : Below w.heap.size w w2 := (below_refl_alloc w _).trans (hb2.mono (by simp))
  clear hb2
  go_wp2_with fail
  go_loopw [12] (fun i wr => FiRel w n hb b i wr) (fun i _ => n - (intOf i).toNat)
  case atStart => exact ⟨0, by omega, rfl, h4, h3, hbw⟩
  case round =>
    clear h3 h4 hbw
    obtain ⟨wo, rfl⟩ : ∃ wo : World, wo = wr := ⟨_, rfl⟩
    obtain ⟨k, hkn, rfl, hm, hr, hbw⟩ := hrel
    by_cases hlt : k < n
    · obtain ⟨rfl, hbB⟩ := hp (by omega)
      obtain ⟨k0, k1, hs, ht⟩ := hc k hlt
      have q0 := (hbw.cell (p := ⟨b0, off + k * 2, none⟩) hbB).trans k0
      have q1 := (hbw.cell (p := ⟨b0, off + k * 2 + 1, none⟩) hbB).trans k1
      generalize ss k = s at *
      generalize ts k = t at *
      clear hp hc k0 k1
      go_wp2_with fail
      obtain ⟨W1, hW1⟩ : ∃ W1, wo.alloc (.cells #[.string s, .string t] 66) = W1 := ⟨_, rfl⟩
      rw [hW1]
      have b1 : Below wo.heap.size wo W1 := by rw [← hW1]; exact below_refl_alloc wo _
      clear hW1
      have hlt1 := hm.lt
      have hr1 := (b1.block hb (Array.getElem?_eq_some_iff.1 hr).1).trans hr
      refine (add152 hb b k s t W1 hs ht hr1 (hm.kept (b1.block b hlt1)) (by omega)).mono ?_
      rintro e w3 ⟨⟨r, rfl⟩, hm3, hE3⟩
      have hbb : hb ≠ b := by
        rintro rfl
        obtain ⟨D, es, clock, g1, _⟩ := hm
        rw [hr] at g1; cases g1
      have hr3 := (hE3.other hb hbb (Array.getElem?_eq_some_iff.1 hr1).1).trans hr1
      have hs1 := b1.size
      have hso := hbw.size
      have hb3 : Below w.heap.size w w3 := hbw.trans ((b1.mono (by omega)).trans (hE3.toBelow (by omega) (by omega)))
      clear hm hr hbw b1 hr1 hE3 q0 q1
      go_wp2
      go_roundw
      case rel => exact ⟨k + 1, by omega, by go_num, hm3, hr3, hb3⟩
      case measure => simp [intOf]; omega
    · clear hp hc
      go_wp2
      go_ret
      exact ⟨hb, b, rfl, hbw, hr⟩
theorem load318 (w : World) (b : Nat) (v : Value) (h0 : w.cell? ⟨b, 0, none⟩ = some v) : (Instr.loadAt 318 (.pointer (some ⟨b, 0, none⟩))).run Tryz.prog w = .ok (.agg #[v]) w := by
  go_simp
def UsPost (w : World) (e : Ending) (w' : World) : Prop := ∃ b, e = .returned (.agg #[.map (some b)]) ∧ Below w.heap.size w w'
set_option maxRecDepth 20000 in
set_option maxHeartbeats 1600000 in
theorem immut74 (n c : Nat) (p : Option Addr) (ss ts : Nat → ByteArray) (w : World) (h : UidRow w w.heap.size n p ss ts) :
    Calls Tryz.prog 74 #[.slice p n c] w (UsPost w) := by
  go_enter Tryz.func74, Tryz.ntmps74
  have h' : UidRow (w.alloc (.cells #[.map none] 170)) (w.alloc (.cells #[.map none] 170)).heap.size n p ss ts := by
    obtain ⟨hn, b0, off, hp, hc⟩ := h
    refine ⟨hn, b0, off, fun h => ⟨(hp h).1, by have := (hp h).2; simp; omega⟩, fun i hi => ?_⟩
    obtain ⟨c0, c1, c2, c3⟩ := hc i hi
    have hbl := (hp (by omega)).2
    exact ⟨((below_refl_alloc w _).cell (p := ⟨b0, off + i * 2, none⟩) hbl).trans c0, ((below_refl_alloc w _).cell (p := ⟨b0, off + i * 2 + 1, none⟩) hbl).trans c1, c2, c3⟩
  clear h
  go_wp2_with fail
  refine (fromItems n c p ss ts _ h').mono ?_
  rintro e w2 ⟨hb, b, rfl, hb2, hr⟩
  have hr2 : w2.heap[w.heap.size]? = some (.cells #[.map none] 170 (0, 0)) := (hb2.block _ (by simp)).trans (heap_alloc_new w _)
  have hbw : Below w.heap.size w w2 := (below_refl_alloc w _).trans (hb2.mono (by simp))
  clear hb2 h'
  have c0 := blk1 hr2 0
  have c1 := blk1 hr 0
  have f0 : w2.frozen? ⟨w.heap.size, 0, none⟩ = false := by simp [World.frozen?, hr2]
  go_wp2
  try simp only [Exit.inBlock, Exit.then]
  refine bodyPost_ret (results_cell (a := 2) (t := 170) (by kernel_rfl) _ ⟨w.heap.size, 0, none⟩ rfl _ _ (load1 _ _ _ (by kernel_rfl) (by kernel_rfl) (blk1 (setCell_here hr2 _) 0))) rfl ?_
  exact ⟨b, rfl, hbw.setCell (Nat.le_refl _) _⟩
set_option maxRecDepth 20000 in
set_option maxHeartbeats 1600000 in
theorem uidset49 (n c : Nat) (p : Option Addr) (ss ts : Nat → ByteArray) (w : World) (h : UidRow w w.heap.size n p ss ts) :
    Calls Tryz.prog 49 #[.slice p n c] w (UsPost w) := by
  go_enter Tryz.func49, Tryz.ntmps49
  have h' : UidRow (w.alloc (.cells #[.map none] 170)) (w.alloc (.cells #[.map none] 170)).heap.size n p ss ts := by
    obtain ⟨hn, b0, off, hp, hc⟩ := h
    refine ⟨hn, b0, off, fun h => ⟨(hp h).1, by have := (hp h).2; simp; omega⟩, fun i hi => ?_⟩
    obtain ⟨c0, c1, c2, c3⟩ := hc i hi
    have hbl := (hp (by omega)).2
    exact ⟨((below_refl_alloc w _).cell (p := ⟨b0, off + i * 2, none⟩) hbl).trans c0, ((below_refl_alloc w _).cell (p := ⟨b0, off + i * 2 + 1, none⟩) hbl).trans c1, c2, c3⟩
  clear h
  go_wp2_with fail
  refine (immut74 n c p ss ts _ h').mono ?_
  rintro e w2 ⟨b, rfl, hb2⟩
  have hr2 : w2.heap[w.heap.size]? = some (.cells #[.map none] 170 (0, 0)) := (hb2.block _ (by simp)).trans (heap_alloc_new w _)
  have hbw : Below w.heap.size w w2 := (below_refl_alloc w _).trans (hb2.mono (by simp))
  clear hb2 h'
  have c0 := blk1 hr2 0
  have f0 : w2.frozen? ⟨w.heap.size, 0, none⟩ = false := by simp [World.frozen?, hr2]
  go_wp2
  try simp only [Exit.inBlock, Exit.then]
  refine bodyPost_ret (results_cell (a := 2) (t := 170) (by kernel_rfl) _ ⟨w.heap.size, 0, none⟩ rfl _ _ (load1 _ _ _ (by kernel_rfl) (by kernel_rfl) (blk1 (setCell_here hr2 _) 0))) rfl ?_
  exact ⟨b, rfl, hbw.setCell (Nat.le_refl _) _⟩
end Go.Proofs.Exp
