/- Part of the proof of FnAuthorizeNone: without policies no request is allowed; for every world that comes in. -/
import Derived.Test.YtaigmemiklfjoaaGreatDoorZEqAny
import Derived.RangeFuncNested
import Derived.RangeFuncBound
import Derived.RangeFuncCalls
import Derived.RangeFuncLeaves
import Derived.OwnWalkIn
import Derived.TacticsInMore
import Derived.LoopNIn
import Derived.LoopIn
set_option linter.unusedSimpArgs false
set_option linter.unusedVariables false
set_option linter.unnecessarySimpa false
namespace Go.Proofs.Exp
open Go.RowKit
set_option linter.unusedVariables false
/-- What an operation does in a frame it does in the wide fence, and in a round there, too (but a defer). -/
theorem upon_wide {P : Program} {o : Oper} {a : Act} {K : Act → World → Prop} {Q : Exit → Act → World → Prop} (n : Nat) (r : Result Next) (h : o.upon P a K Q r) : o.uponIn Fence.wide n P a K Q r := by
  cases r with
  | ok x w' =>
    cases x with
    | value v => exact h
    | skip => exact h
    | defer d => exact h
    | enter f args => exact ⟨fun hd => (by cases hd), callsIn_wide.2 h⟩
    | row row args => exact ⟨fun hd => (by cases hd), fun c cs _ => let ⟨v, w2, hr, s⟩ := h c cs; ⟨v, w2, hr, stepsIn_wide.2 s⟩⟩
    | _ => exact h.elim
  | halt x w' => cases x <;> exact h
theorem upon_round {P : Program} {o : Oper} {a : Act} {K : Act → World → Prop} {Q : Exit → Act → World → Prop} (l n : Nat) (r : Result Next) (h : o.upon P a K Q r) : o.uponIn (Fence.wide.inRound l) n P a K Q r := by
  cases r with
  | ok x w' =>
    cases x with
    | value v => exact h
    | skip => exact h
    | defer d => exact h
    | enter f args => exact ⟨fun hd => (by cases hd), CallsIn.inRound l (callsIn_wide.2 h)⟩
    | row row args => exact ⟨fun hd => (by cases hd), fun c cs _ => let ⟨v, w2, hr, s⟩ := h c cs; ⟨v, w2, hr, by rw [fenced_inRound]; exact stepsIn_wide.2 s⟩⟩
    | _ => exact h.elim
  | halt x w' => cases x <;> exact h
theorem wp_wide {P : Program} {o : Oper} {a : Act} {w : World} {K : Act → World → Prop} {Q : Exit → Act → World → Prop} (n : Nat) (h : o.wp P a w K Q) : o.wpIn Fence.wide n P a w K Q :=
  ⟨fun f _ => trivial, upon_wide n _ h⟩
theorem wp_round {P : Program} {o : Oper} {a : Act} {w : World} {K : Act → World → Prop} {Q : Exit → Act → World → Prop} (l n : Nat) (hnd : ∀ c, o.op ≠ .defer c) (h : o.wp P a w K Q) : o.wpIn (Fence.wide.inRound l) n P a w K Q := by
  refine ⟨fun f _ => trivial, ?_⟩
  rw [Oper.semAt_eq _ _ _ hnd]
  exact upon_round l n _ h
end Go.Proofs.Exp
namespace Go.Proofs.Exp
open Go.RowKit
set_option linter.unusedVariables false
section
variable {P : Program} {ops : Array Oper} {Q : Exit → Act → World → Prop}
/-- The slots that a region writes. -/
def dstsOf (ops : Array Oper) : List Tmp := ops.toList.filterMap (·.dst)
/-- What an operation has yielded. -/
def valOf (a : Act) (o : Oper) : Value := match o.dst with | some d => a.tmps.getD d undef | none => undef

structure Region.OK (ops : Array Oper) (n : Nat) : Prop where
  nodup : (dstsOf ops).Nodup
  small : ∀ d ∈ dstsOf ops, d < n
  guard : ∀ o ∈ ops.toList, o.guard = none
  edges : ∀ i o, ops[i]? = some o → ∀ e ∈ o.after.toList, Region.binds .any e = true → e.on < i

structure Facts (ops : Array Oper) (a0 : Act) (w0 : World) (E : World → World → Prop) (Φ : Nat → Value → World → Prop) (listed : Array Bool) (a : Act) (w : World) : Prop where
  ext : E w0 w
  size : a.tmps.size = a0.tmps.size
  defers : a.defers = a0.defers
  other : ∀ t, t ∉ dstsOf ops → a.tmps.getD t undef = a0.tmps.getD t undef
  facts : ∀ j o, ops[j]? = some o → listed.getD j false = true → Φ j (valOf a o) w

theorem getD_put (a : Act) (d : Tmp) (v : Value) (t : Tmp) (hd : d < a.tmps.size) : (a.put (some d) v).tmps.getD t undef = if t = d then v else a.tmps.getD t undef := by
  simp only [Act.put, Array.getD_eq_getD_getElem?, Array.getElem?_setIfInBounds]
  by_cases h : t = d
  · subst h; simp [hd]
  · simp [h, Ne.symm h]

theorem nodup_filterMap_ne : ∀ (l : List Oper) (i j : Nat) (oi oj : Oper) (d : Tmp), (l.filterMap (·.dst)).Nodup → l[i]? = some oi → l[j]? = some oj → i ≠ j → oi.dst = some d → oj.dst ≠ some d
  | [], i, j, oi, oj, d, _, h, _, _, _ => by simp at h
  | o :: l, i, j, oi, oj, d, hn, hi, hj, hij, hdi => by
    have key : ∀ (k : Nat) (ok : Oper), l[k]? = some ok → ok.dst = some d → d ∈ l.filterMap (·.dst) := fun k ok hk hd =>
      List.mem_filterMap.2 ⟨ok, List.mem_of_getElem? hk, hd⟩
    have htail : (l.filterMap (·.dst)).Nodup := by
      rw [List.filterMap_cons] at hn
      split at hn
      · exact hn
      · exact (List.nodup_cons.1 hn).2
    have hhead : o.dst = some d → d ∉ l.filterMap (·.dst) := by
      intro hd
      rw [List.filterMap_cons, hd] at hn
      exact (List.nodup_cons.1 hn).1
    cases i with
    | zero =>
      cases j with
      | zero => exact absurd rfl hij
      | succ j =>
        simp at hi hj
        subst hi
        intro h
        exact hhead hdi (key j oj (by simpa using hj) h)
    | succ i =>
      cases j with
      | zero =>
        simp at hi hj
        subst hj
        intro h
        exact hhead h (key i oi (by simpa using hi) hdi)
      | succ j => exact nodup_filterMap_ne l i j oi oj d htail (by simpa using hi) (by simpa using hj) (by omega) hdi

theorem Facts.step {a0 : Act} {w0 : World} {E : World → World → Prop} {Φ : Nat → Value → World → Prop} (hok : Region.OK ops a0.tmps.size) (hT : ∀ a b c, E a b → E b c → E a c)
    (hΦ : ∀ j v w w', E w w' → Φ j v w → Φ j v w') {listed : Array Bool} {a : Act} {w w' : World} (h : Facts ops a0 w0 E Φ listed a w) {i : Nat} {o : Oper} (hi : ops[i]? = some o) (hni : listed.getD i true = false)
    (hE : E w w') (v : Value) (hv : Φ i (match o.dst with | some _ => v | none => undef) w') : Facts ops a0 w0 E Φ (listed.setIfInBounds i true) (a.put o.dst v) w' := by
  have hilt : i < listed.size := by
    rcases Nat.lt_or_ge i listed.size with h | h
    · exact h
    · simp [Array.getD, Nat.not_lt.2 h] at hni
  have hmem : ∀ d, o.dst = some d → d ∈ dstsOf ops := fun d hd => List.mem_filterMap.2 ⟨o, List.mem_of_getElem? (by simpa using hi), hd⟩
  have hlt : ∀ d, o.dst = some d → d < a.tmps.size := fun d hd => by rw [h.size]; exact hok.small d (hmem d hd)
  refine ⟨hT _ _ _ h.ext hE, ?_, ?_, ?_, ?_⟩
  · cases hd : o.dst <;> simp [Act.put, h.size]
  · cases hd : o.dst <;> simp [Act.put, h.defers]
  · intro t ht
    cases hd : o.dst with
    | none => simp only [Act.put]; exact h.other t ht
    | some d =>
      have hne : t ≠ d := by rintro rfl; exact ht (hmem _ hd)
      rw [getD_put _ _ _ _ (hlt d hd), if_neg hne]
      exact h.other t ht
  · intro j oj hj hl
    by_cases hij : j = i
    · subst hij
      obtain rfl : o = oj := by rw [hi] at hj; exact Option.some.inj hj
      cases hd : o.dst with
      | none => rw [hd] at hv; simpa [valOf, hd, Act.put] using hv
      | some d =>
        rw [hd] at hv
        have : valOf (a.put (some d) v) o = v := by simp only [valOf, hd]; rw [getD_put _ _ _ _ (hlt d hd), if_pos rfl]
        rw [this]; exact hv
    · have hl' : listed.getD j false = true := by rw [getD_set_ne false (Ne.symm hij)] at hl; exact hl
      have hval : valOf (a.put o.dst v) oj = valOf a oj := by
        cases hd : o.dst with
        | none => rfl
        | some d =>
          cases hdj : oj.dst with
          | none => simp [valOf, hdj]
          | some dj =>
            have hne : dj ≠ d := by
              rintro rfl
              exact nodup_filterMap_ne ops.toList i j o oj dj hok.nodup (by simpa using hi) (by simpa using hj) (Ne.symm hij) hd hdj
            simp only [valOf, hdj]
            rw [getD_put _ _ _ _ (hlt d hd), if_neg hne]
      rw [hval]
      exact hΦ _ _ _ _ hE (h.facts j oj hj hl')

/-- What an operation of the region has to do, whenever it comes: the operations that it waits for have their facts. -/
def OpDoes (P : Program) (ops : Array Oper) (Q : Exit → Act → World → Prop) (a0 : Act) (w0 : World) (E : World → World → Prop) (Φ : Nat → Value → World → Prop) (i : Nat) (o : Oper) : Prop :=
  ∀ (a : Act) (w : World), E w0 w → (∀ t, t ∉ dstsOf ops → a.tmps.getD t undef = a0.tmps.getD t undef) →
    (∀ e ∈ o.after.toList, Region.binds .any e = true → ∀ oj, ops[e.on]? = some oj → Φ e.on (valOf a oj) w) →
    o.wp P a w (fun a' w' => E w w' ∧ ∃ v, a' = a.put o.dst v ∧ Φ i (match o.dst with | some _ => v | none => undef) w') Q

theorem Region.OK.acyc {n : Nat} (hok : Region.OK ops n) (listed : Array Bool) (hs : listed.size = ops.size) (hr : Region.ready .any ops listed = []) : listed = Array.replicate ops.size true := by
  have hall : ∀ i, i < ops.size → listed.getD i false = true := by
    intro i
    induction i using Nat.strongRecOn with
    | _ i ih =>
      intro hi
      refine Classical.byContradiction fun hno => ?_
      have hmem : i ∈ Region.ready .any ops listed := by
        rw [mem_ready]
        refine ⟨?_, ops[i], Array.getElem?_eq_getElem hi, ?_⟩
        · simp only [Array.getD, hs, hi, dif_pos] at hno ⊢
          simpa using hno
        · intro e he hb
          have hlt := hok.edges i ops[i] (Array.getElem?_eq_getElem hi) e (by simpa using he) hb
          exact ih _ hlt (by omega)
      rw [hr] at hmem
      cases hmem
  apply Array.ext
  · simp [hs]
  · intro i h1 h2
    have := hall i (by simpa [hs] using h1)
    simp only [Array.getD, h1, dif_pos] at this
    simpa using this

theorem wpAny_facts {a0 : Act} {w0 : World} {E : World → World → Prop} {Φ : Nat → Value → World → Prop} (hok : Region.OK ops a0.tmps.size) (hT : ∀ a b c, E a b → E b c → E a c)
    (hΦ : ∀ j v w w', E w w' → Φ j v w → Φ j v w') (hop : ∀ i o, ops[i]? = some o → OpDoes P ops Q a0 w0 E Φ i o)
    (hdone : ∀ a w, Facts ops a0 w0 E Φ (Array.replicate ops.size true) a w → Q .normal a w)
    :
    ∀ (fuel : Nat) (listed : Array Bool) (a : Act) (w : World), listed.size = ops.size → (listed.toList.filter (! ·)).length ≤ fuel → Facts ops a0 w0 E Φ listed a w → wpAny P .any ops Q fuel listed a w := by
  intro fuel
  induction fuel with
  | zero =>
    intro listed a w hs hf h
    have hall : listed = Array.replicate ops.size true := by
      have h0 : listed.toList.filter (! ·) = [] := List.eq_nil_of_length_eq_zero (by omega)
      rw [List.filter_eq_nil_iff] at h0
      apply Array.ext
      · simp [hs]
      · intro i h1 h2
        have := h0 listed[i] (by simp)
        simpa using this
    subst hall
    refine ⟨?_, hdone _ _ h⟩
    unfold Region.ready
    rw [List.filter_eq_nil_iff]
    intro i hi
    simp at hi
    simp [Array.getD, hi]
  | succ fuel ih =>
    intro listed a w hs hf h
    refine ⟨fun hr => ?_, fun i hi => ?_⟩
    · have := hok.acyc listed hs hr
      subst this
      exact hdone _ _ h
    · rw [mem_ready] at hi
      obtain ⟨hni, o, ho, hedges⟩ := hi
      unfold wpOp
      simp only [ho]
      have hmemo : o ∈ ops.toList := List.mem_of_getElem? (by simpa using ho)
      have hw : Region.wanted o (yielded ops a.tmps) = true := by simp [Region.wanted, hok.guard o hmemo]
      rw [if_pos hw]
      refine .inl (Oper.wp_mono ?_ (hop i o ho a w h.ext h.other (fun e he hb oj hoj => h.facts _ _ hoj (hedges e (by simpa using he) hb))))
      rintro a' w' ⟨hE, v, rfl, hv⟩
      refine ih _ _ _ (by simp [hs]) ?_ (h.step hok hT hΦ ho hni hE v hv)
      have hilt : i < listed.size := by
        rcases Nat.lt_or_ge i listed.size with h | h
        · exact h
        · simp [Array.getD, Nat.not_lt.2 h] at hni
      have hfalse : listed[i] = false := by simpa [Array.getD, hilt] using hni
      have hcount : ∀ (l : List Bool) (k : Nat) (hk : k < l.length), l[k] = false → ((l.set k true).filter (! ·)).length + 1 = (l.filter (! ·)).length := by
        intro l
        induction l with
        | nil => intro k hk; simp at hk
        | cons b l ihl =>
          intro k hk hb
          cases k with
          | zero => simp at hb; subst hb; simp
          | succ k =>
            simp only [List.set_cons_succ, List.filter_cons]
            have := ihl k (by simpa using hk) (by simpa using hb)
            cases b <;> simp <;> omega
      have := hcount listed.toList i (by simpa using hilt) (by simpa using hfalse)
      simp only [Array.toList_setIfInBounds]
      omega

/-- A region that draws its order: each operation does its part whenever it comes. -/
theorem wp_region_facts {id : Nat} {a0 : Act} {w0 : World} (hm : P.follows .mixedOrders = true) (E : World → World → Prop) (Φ : Nat → Value → World → Prop) (hok : Region.OK ops a0.tmps.size)
    (hE0 : E w0 w0.drew) (hT : ∀ a b c, E a b → E b c → E a c) (hΦ : ∀ j v w w', E w w' → Φ j v w → Φ j v w')
    (hop : ∀ i o, ops[i]? = some o → OpDoes P ops Q a0 w0 E Φ i o)
    (hdone : ∀ a w, Facts ops a0 w0 E Φ (Array.replicate ops.size true) a w → Q .normal a w) : (Code.region id ops true).wp P Q a0 w0 := by
  refine wp_region_any hm (wpAny_facts hok hT hΦ hop hdone _ _ _ _ (by simp) (by simp) ?_)
  exact ⟨hE0, rfl, rfl, fun _ _ => rfl, fun j o _ hl => by simp [Array.getD] at hl⟩

theorem wpAnyIn_facts (l n : Nat) (hnd : ∀ o ∈ ops.toList, ∀ c, o.op ≠ .defer c) {a0 : Act} {w0 : World} {E : World → World → Prop} {Φ : Nat → Value → World → Prop} (hok : Region.OK ops a0.tmps.size) (hT : ∀ a b c, E a b → E b c → E a c)
    (hΦ : ∀ j v w w', E w w' → Φ j v w → Φ j v w') (hop : ∀ i o, ops[i]? = some o → OpDoes P ops Q a0 w0 E Φ i o)
    (hdone : ∀ a w, Facts ops a0 w0 E Φ (Array.replicate ops.size true) a w → Q .normal a w)
    :
    ∀ (fuel : Nat) (listed : Array Bool) (a : Act) (w : World), listed.size = ops.size → (listed.toList.filter (! ·)).length ≤ fuel → Facts ops a0 w0 E Φ listed a w → wpAnyIn (Fence.wide.inRound l) n P .any ops Q fuel listed a w := by
  intro fuel
  induction fuel with
  | zero =>
    intro listed a w hs hf h
    have hall : listed = Array.replicate ops.size true := by
      have h0 : listed.toList.filter (! ·) = [] := List.eq_nil_of_length_eq_zero (by omega)
      rw [List.filter_eq_nil_iff] at h0
      apply Array.ext
      · simp [hs]
      · intro i h1 h2
        have := h0 listed[i] (by simp)
        simpa using this
    subst hall
    refine ⟨?_, hdone _ _ h⟩
    unfold Region.ready
    rw [List.filter_eq_nil_iff]
    intro i hi
    simp at hi
    simp [Array.getD, hi]
  | succ fuel ih =>
    intro listed a w hs hf h
    refine ⟨fun hr => ?_, fun i hi => ?_⟩
    · have := hok.acyc listed hs hr
      subst this
      exact hdone _ _ h
    · rw [mem_ready] at hi
      obtain ⟨hni, o, ho, hedges⟩ := hi
      unfold wpOpIn
      simp only [ho]
      have hmemo : o ∈ ops.toList := List.mem_of_getElem? (by simpa using ho)
      have hw : Region.wanted o (yielded ops a.tmps) = true := by simp [Region.wanted, hok.guard o hmemo]
      rw [if_pos hw]
      refine wp_round l n (hnd o hmemo) (Oper.wp_mono ?_ (hop i o ho a w h.ext h.other (fun e he hb oj hoj => h.facts _ _ hoj (hedges e (by simpa using he) hb))))
      rintro a' w' ⟨hE, v, rfl, hv⟩
      refine ih _ _ _ (by simp [hs]) ?_ (h.step hok hT hΦ ho hni hE v hv)
      have hilt : i < listed.size := by
        rcases Nat.lt_or_ge i listed.size with h | h
        · exact h
        · simp [Array.getD, Nat.not_lt.2 h] at hni
      have hfalse : listed[i] = false := by simpa [Array.getD, hilt] using hni
      have hcount : ∀ (l : List Bool) (k : Nat) (hk : k < l.length), l[k] = false → ((l.set k true).filter (! ·)).length + 1 = (l.filter (! ·)).length := by
        intro l
        induction l with
        | nil => intro k hk; simp at hk
        | cons b l ihl =>
          intro k hk hb
          cases k with
          | zero => simp at hb; subst hb; simp
          | succ k =>
            simp only [List.set_cons_succ, List.filter_cons]
            have := ihl k (by simpa using hk) (by simpa using hb)
            cases b <;> simp <;> omega
      have := hcount listed.toList i (by simpa using hilt) (by simpa using hfalse)
      simp only [Array.toList_setIfInBounds]
      omega


theorem wpIn_region_facts {l n id : Nat} {a0 : Act} {w0 : World} (hm : P.follows .mixedOrders = true) (hnd : ∀ o ∈ ops.toList, ∀ c, o.op ≠ .defer c) (E : World → World → Prop) (Φ : Nat → Value → World → Prop) (hok : Region.OK ops a0.tmps.size)
    (hE0 : E w0 w0.drew) (hT : ∀ a b c, E a b → E b c → E a c) (hΦ : ∀ j v w w', E w w' → Φ j v w → Φ j v w')
    (hop : ∀ i o, ops[i]? = some o → OpDoes P ops Q a0 w0 E Φ i o)
    (hdone : ∀ a w, Facts ops a0 w0 E Φ (Array.replicate ops.size true) a w → Q .normal a w) : (Code.region id ops true).wpIn (Fence.wide.inRound l) n P Q a0 w0 := by
  refine wpIn_region_any hm (wpAnyIn_facts l n hnd hok hT hΦ hop hdone _ _ _ _ (by simp) (by simp) ?_)
  exact ⟨hE0, rfl, rfl, fun _ _ => rfl, fun j o _ hl => by simp [Array.getD] at hl⟩

/-- What the frame is behind such a region: the slots that it writes hold something, all others what they held. -/
theorem Facts.frame {a0 : Act} {w0 : World} {E : World → World → Prop} {Φ : Nat → Value → World → Prop} {listed : Array Bool} {a : Act} {w : World} (h : Facts ops a0 w0 E Φ listed a w) :
    ∃ vs : Nat → Value, a = { tmps := a0.tmps.mapIdx fun i x => if (dstsOf ops).contains i then vs i else x, defers := a0.defers } ∧ ∀ d, a.tmps.getD d undef = (if d ∈ dstsOf ops then a.tmps.getD d undef else a0.tmps.getD d undef) := by
  refine ⟨fun i => a.tmps.getD i undef, ?_, ?_⟩
  · obtain ⟨t, ds⟩ := a
    have hs := h.size
    have hd := h.defers
    have ho := h.other
    simp only at hs hd ho ⊢
    subst hd
    congr 1
    apply Array.ext
    · simp [hs]
    · intro i h1 h2
      simp only [Array.getElem_mapIdx]
      split
      · simp [Array.getD, h1]
      · rename_i hc
        have := ho i (by simpa using hc)
        simp only [Array.getD, h1, dif_pos] at this
        rw [hs] at h1
        simpa [h1] using this
  · intro d
    split
    · rfl
    · rename_i hd; exact h.other d hd
end
end Go.Proofs.Exp
namespace Go.Proofs.Exp
open Go.RowKit
set_option linter.unusedVariables false
def regionOKb (ops : Array Oper) (n : Nat) : Bool :=
  decide (dstsOf ops).Nodup && (dstsOf ops).all (fun d => decide (d < n)) && ops.toList.all (fun o => o.guard.isNone) &&
    ops.toList.zipIdx.all (fun x => x.1.after.toList.all fun e => !Region.binds .any e || decide (e.on < x.2)) &&
    ops.toList.all (fun o => match o.op with | .defer _ => false | _ => true)
theorem regionOK_of {ops : Array Oper} {n : Nat} (h : regionOKb ops n = true) : Region.OK ops n ∧ ∀ o ∈ ops.toList, ∀ c, o.op ≠ .defer c := by
  simp only [regionOKb, Bool.and_eq_true, decide_eq_true_eq, List.all_eq_true] at h
  obtain ⟨⟨⟨⟨h1, h2⟩, h3⟩, h4⟩, h5⟩ := h
  refine ⟨⟨h1, fun d hd => by simpa using h2 d hd, fun o ho => by simpa using h3 o ho, ?_⟩, ?_⟩
  · intro i o hi e he hb
    have hm : (o, i) ∈ ops.toList.zipIdx := by
      rw [List.mem_zipIdx_iff_getElem?]
      simpa using hi
    have := h4 (o, i) hm e he
    rw [hb] at this
    simpa using this
  · intro o ho c hc
    have := h5 o ho
    rw [hc] at this
    cases this
theorem wp_region_F {P : Program} {ops : Array Oper} {Q : Exit → Act → World → Prop} {id : Nat} {a0 : Act} {w0 : World} (hm : P.follows .mixedOrders = true) (hokb : regionOKb ops a0.tmps.size = true) (E : World → World → Prop) (Φ : Nat → Value → World → Prop)
    (hE0 : E w0 w0.drew) (hT : ∀ a b c, E a b → E b c → E a c) (hΦ : ∀ j v w w', E w w' → Φ j v w → Φ j v w')
    (hop : ∀ i o, ops[i]? = some o → OpDoes P ops Q a0 w0 E Φ i o)
    (hdone : ∀ a w, Facts ops a0 w0 E Φ (Array.replicate ops.size true) a w → Q .normal a w) : (Code.region id ops true).wp P Q a0 w0 :=
  wp_region_facts hm E Φ (regionOK_of hokb).1 hE0 hT hΦ hop hdone
theorem wpIn_region_F {P : Program} {ops : Array Oper} {Q : Exit → Act → World → Prop} {l n id : Nat} {a0 : Act} {w0 : World} (hm : P.follows .mixedOrders = true) (hokb : regionOKb ops a0.tmps.size = true) (E : World → World → Prop) (Φ : Nat → Value → World → Prop)
    (hE0 : E w0 w0.drew) (hT : ∀ a b c, E a b → E b c → E a c) (hΦ : ∀ j v w w', E w w' → Φ j v w → Φ j v w')
    (hop : ∀ i o, ops[i]? = some o → OpDoes P ops Q a0 w0 E Φ i o)
    (hdone : ∀ a w, Facts ops a0 w0 E Φ (Array.replicate ops.size true) a w → Q .normal a w) : (Code.region id ops true).wpIn (Fence.wide.inRound l) n P Q a0 w0 :=
  wpIn_region_facts hm (regionOK_of hokb).2 E Φ (regionOK_of hokb).1 hE0 hT hΦ hop hdone
section
variable {P : Program} {o : Oper} {a : Act} {w : World} {K : Act → World → Prop} {Q : Exit → Act → World → Prop}
theorem wpo_move (x : Operand) (ho : o.op = .move x) (v : Value) (hx : a.eval x = v) (h : K (a.put o.dst v) w) : o.wp P a w K Q := by
  unfold Oper.wp; simp only [execOp, ho, hx, Sem.run_pure, Oper.upon]; exact h
theorem wpo_assign (x : Operand) (ho : o.op = .assign x) (v : Value) (hx : a.eval x = v) (h : K (a.put o.dst v) w) : o.wp P a w K Q := by
  unfold Oper.wp; simp only [execOp, ho, hx, Sem.run_pure, Oper.upon]; exact h
theorem wpo_load (t : TypeId) (x : Operand) (ho : o.op = .load t x) (p : Value) (hx : a.eval x = p) (v : Value) (hr : (Instr.loadAt t p).run P w = .ok v w) (h : K (a.put o.dst v) w) : o.wp P a w K Q := by
  unfold Oper.wp; simp only [execOp, ho, hx, Sem.run_bind, hr, Result.andThen_ok, Sem.run_pure, Oper.upon]; exact h
theorem wpo_store (t : TypeId) (x y : Operand) (ho : o.op = .store t x y) (p : Value) (hx : a.eval x = p) (v : Value) (hy : a.eval y = v) (w' : World) (hr : (Instr.storeAt t p v).run P w = .ok () w') (h : K (a.put o.dst undef) w') : o.wp P a w K Q := by
  unfold Oper.wp; simp only [execOp, ho, hx, hy, Sem.run_bind, hr, Result.andThen_ok, Sem.run_pure, Oper.upon]; exact h
theorem wpo_fieldAddr (t : TypeId) (x : Operand) (i : Nat) (ho : o.op = .fieldAddr t x i) (p : Value) (hx : a.eval x = p) (v : Value) (hr : (Instr.fieldAt t p i).run P w = .ok v w) (h : K (a.put o.dst v) w) : o.wp P a w K Q := by
  unfold Oper.wp; simp only [execOp, ho, hx, Sem.run_bind, hr, Result.andThen_ok, Sem.run_pure, Oper.upon]; exact h
theorem wpo_binOp (op : BinOp) (t t2 : TypeId) (x y : Operand) (ho : o.op = .binOp op t x y t2) (vx vy : Value) (hx : a.eval x = vx) (hy : a.eval y = vy) (v : Value) (hr : (do eqGuard op t x y vx vy; binOp op t vx vy).run P w = .ok v w) (h : K (a.put o.dst v) w) : o.wp P a w K Q := by
  unfold Oper.wp; simp only [execOp, ho, hx, hy, Sem.run_bind, hr, Result.andThen_ok, Sem.run_pure, Oper.upon]
  exact h
theorem wpo_call (f : FuncId) (args : Array Operand) (ats : Array TypeId) (ho : o.op = .call { callee := .value (.func f), args := args, argTypes := ats }) (fn : Func) (hf : P.funcs[f]? = some fn) (hn : (fn.name == "runtime.NumGoroutine") = false) (hb : fn.body.isNone = false)
    (vs : List Value) (hvs : args.toList.map a.eval = vs) (R : Value → World → Prop) (hc : Calls P f vs.toArray w (fun e w' => ∃ v, e = .returned v ∧ R v w')) (h : ∀ v w', R v w' → K (a.put o.dst v) w') : o.wp P a w K Q := by
  have hvs' : args.map a.eval = vs.toArray := by rw [← hvs, ← Array.toList_map, Array.toArray_toList]
  unfold Oper.wp; simp only [execOp, ho, resolve, Act.eval, Deferred.ofValue, invoke, callFunc, program, Sem.run_bind, Sem.run, Sem.run_pure, Result.andThen_ok, hf, hn, hb, Bool.false_eq_true, if_false, Oper.upon]
  rw [hvs', Array.append_empty, Array.empty_append]
  refine Calls.mono hc fun e w' he => ?_
  obtain ⟨y, rfl, hR⟩ := he
  exact h y w' hR
theorem wpo_inv (r : Operand) (name : String) (args : Array Operand) (ats : Array TypeId)
    (ho : o.op = .call { callee := .invoke r name, args := args, argTypes := ats })
    (v : Value) (hr : a.eval r = v) (vs : List Value) (hvs : (args.toList.map a.eval) = vs) (R : Value → World → Prop) (hI : Inv P name v vs w R)
    (h : ∀ y w', R y w' → K (a.put o.dst y) w') : o.wp P a w K Q := by
  obtain ⟨T, x, f, rv, fn, rfl, hm, hf, hn, hb, hc⟩ := hI
  have hvs' : args.map a.eval = vs.toArray := by rw [← hvs, ← Array.toList_map, Array.toArray_toList]
  have hvs2 : #[rv] ++ vs.toArray = (rv :: vs).toArray := by rw [List.append_toArray]; rfl
  unfold Oper.wp execOp
  simp only [ho, resolve, invoke, callMethod, callFunc, Sem.run_bind, Sem.run_pure, Result.andThen_ok, hr, hvs']
  have e0 : (#[Value.iface T x] ++ vs.toArray)[0]? = some (.iface T x) := by rw [Array.getElem?_append_left (Nat.zero_lt_one)]; rfl
  have e1 : (#[Value.iface T x] ++ vs.toArray).extract 1 = vs.toArray := by rw [List.append_toArray]; simp
  simp only [e0, e1, hvs2, program, Sem.run_bind, hm, Result.andThen_ok, Sem.run, hf, hn, hb, Bool.false_eq_true, if_false, Oper.upon]
  refine Calls.mono hc fun e w' he => ?_
  obtain ⟨y, rfl, hR⟩ := he
  exact h y w' hR
end
abbrev loopRec (fnid : FuncId) (tmps : Array Value) (ps : Array Tmp) (assign body : Code) (d : Nat) : Loop :=
  { state := .ready, pending := none, fn := fnid, tmps := tmps, params := ps, assign := assign, body := body, defers := d }
abbrev rangeWorld (w : World) (fnid : FuncId) (tmps : Array Value) (ps : Array Tmp) (assign body : Code) : World :=
  (w.alloc (.deferred (some []))).alloc (.loop (loopRec fnid tmps ps assign body w.heap.size))
theorem wp_rangeFunc_J {P : Program} {g : Operand} {ps : Array Tmp} {assign body : Code} {Q : Exit → Act → World → Prop} {a : Act} {w : World}
    (f : FuncId) (cap : Array Value) (fn0 : Func) (hg : a.eval g = .func (.func f) #[] cap) (hf : P.funcs[f]? = some fn0) (hn : (fn0.name == "runtime.NumGoroutine") = false) (hb : fn0.body.isNone = false)
    (J : Loop → World → Prop)
    (hiter : ∀ fnid, CallsIn Fence.wide 0 P f (#[.func (.yield (w.heap.size + 1)) #[] #[]] ++ cap) (rangeWorld w fnid a.tmps ps assign body)
      (fun e W => (∃ v, e = .returned v) ∧ J (loopRec fnid a.tmps ps assign body w.heap.size) W ∧ W.heap[w.heap.size + 1]? = some (.loop (loopRec fnid a.tmps ps assign body w.heap.size))))
    (h : ∀ fnid W, J (loopRec fnid a.tmps ps assign body w.heap.size) W → W.heap[w.heap.size + 1]? = some (.loop (loopRec fnid a.tmps ps assign body w.heap.size)) →
      Q .normal { a with defers := [{ target := .collected w.heap.size, args := #[] }] ++ a.defers } { W with heap := W.heap.setIfInBounds (w.heap.size + 1) (.loop { loopRec fnid a.tmps ps assign body w.heap.size with state := .exhausted }) }) :
    (Code.rangeFunc g ps assign body).wp P Q a w := by
  refine (wpIn_wide (n := 0)).1 (wpIn_rangeFunc ?_)
  intro fnid _
  refine ⟨w.heap.size + 1, [{ target := .collected w.heap.size, args := #[] }], rangeWorld w fnid a.tmps ps assign body,
    { target := .fn (.func f) cap, args := #[.func (.yield (w.heap.size + 1)) #[] #[]] }, rangeWorld w fnid a.tmps ps assign body, f, #[.func (.yield (w.heap.size + 1)) #[] #[]] ++ cap, rangeWorld w fnid a.tmps ps assign body, ?_, ?_, fun _ _ => trivial, ?_, fun hd => (by cases hd), ?_⟩
  · show (Instr.enterLoop fnid a.tmps ps assign body none).run P w = _
    simp only [Instr.enterLoop, Sem.run_bind, newObj, Sem.run, Sem.run_pure, Result.andThen_ok]
    simp
    rfl
  · simp only [resolve, hg, Deferred.ofValue, Sem.run_pure]
    simp [Act.eval]
  · simp only [invoke, callFunc, program, Sem.run_bind, Sem.run, Sem.run_pure, Result.andThen_ok, hf, hn, hb, Bool.false_eq_true, if_false]
  · refine (hiter fnid).mono ?_
    rintro e W ⟨⟨v, rfl⟩, hJ, hl⟩
    refine ⟨none, _, ?_, h fnid W hJ hl⟩
    simp only [Instr.endLoop, Instr.getLoop, getObj, setObj, Sem.run_bind, Sem.run, Sem.run_pure, Result.andThen_ok, hl]
    rw [if_neg (by decide)]
    simp only [Sem.run_bind, Sem.run, hl, Result.andThen_ok, Sem.run_pure]

theorem setBlk_same {w : World} {b : Nat} {o : Obj} (h : w.heap[b]? = some o) (o' : Obj) : ({ w with heap := w.heap.setIfInBounds b o' } : World).heap[b]? = some o' := by
  have hlt := (Array.getElem?_eq_some_iff.1 h).1
  simp [hlt]
theorem setBlk_other {w : World} {b c : Nat} (h : c ≠ b) (o' : Obj) : ({ w with heap := w.heap.setIfInBounds b o' } : World).heap[c]? = w.heap[c]? := by
  simp [Ne.symm h]
theorem setBlk_size (w : World) (b : Nat) (o' : Obj) : ({ w with heap := w.heap.setIfInBounds b o' } : World).heap.size = w.heap.size := by simp
theorem setBlk_below {w : World} {b B : Nat} (h : B ≤ b) (o' : Obj) : Below B w ({ w with heap := w.heap.setIfInBounds b o' } : World) :=
  ⟨rfl, rfl, rfl, by simp, fun k hk => setBlk_other (by omega) _⟩

/-- One round of a loop over an iterator with one variable, out of its body. -/
theorem yield_round {P : Program} {l : Nat} {W : World} {v : Value} {fnid : FuncId} {tmps : Array Value} {t : Tmp} {assign body : Code} {d : Nat} (hl : W.heap[l]? = some (.loop (loopRec fnid tmps #[t] assign body d))) {R : Ending → World → Prop}
    (h : assign.wpIn (Fence.wide.inRound l) 0 P (Exit.then (fun a₁ w₁ => w₁.heap[l]? = some (.loop (loopRec fnid tmps #[t] assign body d)) ∧
      body.wpIn (Fence.wide.inRound l) 0 P (roundPost P l R) a₁ { w₁ with heap := w₁.heap.setIfInBounds l (.loop { loopRec fnid tmps #[t] assign body d with state := .busy }) }) (fun _ _ _ => False))
      { tmps := tmps.setIfInBounds t v, defers := [] } W) : YieldAt Fence.wide 0 P l #[v] W R := by
  refine ⟨fnid, tmps.setIfInBounds t v, assign, body, ?_, ?_⟩
  · simp only [Instr.yield, Instr.getLoop, getObj, Sem.run_bind, Sem.run, Sem.run_pure, Result.andThen_ok, hl]
    simp
  · refine roundIn_of_wpIn trivial (Code.wpIn_mono ?_ h)
    intro e a₁ w₁ hq
    cases e with
    | normal =>
      obtain ⟨h1, h2⟩ := hq
      refine ⟨_, ?_, h2⟩
      simp only [Instr.beginRound, Instr.getLoop, getObj, setObj, Sem.run_bind, Sem.run, Sem.run_pure, Result.andThen_ok, h1]
    | exit id => exact hq
    | goto l => exact hq
    | ret => exact hq
    | panic c => exact hq
    | outgrown => exact hq
theorem roundPost_normal {P : Program} {l : Nat} {R : Ending → World → Prop} {a : Act} {W : World} {L : Loop} (hl : W.heap[l]? = some (.loop L))
    (h : R (.returned (.bool true)) { W with heap := W.heap.setIfInBounds l (.loop { L with state := .ready, pending := none }) }) : roundPost P l R .normal a W := by
  refine ⟨.bool true, _, ?_, h⟩
  simp only [Instr.endRound, Instr.getLoop, getObj, setObj, Sem.run_bind, Sem.run, Sem.run_pure, Result.andThen_ok, hl]
  simp
end Go.Proofs.Exp
