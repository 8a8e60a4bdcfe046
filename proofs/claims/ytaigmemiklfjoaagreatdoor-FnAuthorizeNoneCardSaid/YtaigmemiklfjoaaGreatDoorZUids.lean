/- Part of the proof of FnAuthorizeNone: without policies no request is allowed; for every world that comes in. -/
import Derived.Test.YtaigmemiklfjoaaGreatDoorZRegL
set_option linter.unusedSimpArgs false
set_option linter.unusedVariables false
set_option linter.unnecessarySimpa false
namespace Go.Proofs.Exp
open Go.RowKit
set_option linter.unusedVariables false
attribute [local go_sem] Oper.semAt_some
theorem u153S : Tryz.prog.underlying 153 = some (.slice 66) := by kernel_rfl
theorem info66 : ∃ i0, Tryz.prog.info? 66 = some i0 ∧ i0.zero = some (.agg #[.string ⟨#[]⟩, .string ⟨#[]⟩]) ∧ i0.size = 2 ∧ i0.bytes = 32 := ⟨Tryz.t66, by kernel_rfl, by kernel_rfl, by kernel_rfl, by kernel_rfl⟩
theorem app153 {ops : Array Oper} {rest : List Oper} {o : Oper} {a : Act} {w : World} {Q : Exit → Act → World → Prop} (hgd : o.guard = none) (s xo : Operand)
    (ho : o.op = .call { callee := .builtin .append, args := #[s, xo], argTypes := #[153, 153] }) (base : Nat) (v : Value) (n : Nat) (xs : List Value) (hs : a.eval s = v) (hown : w.ownsRow base 66 2 v n xs)
    (blk : Nat) (x y : ByteArray) (hx : a.eval xo = .slice (some ⟨blk, 0, none⟩) 1 1) (hc : w.cell? ⟨blk, 0, none⟩ = some (.string x)) (hc1 : w.cell? ⟨blk, 1, none⟩ = some (.string y)) (hn : n + 1 ≤ 4398046511040) (hbase : base ≤ w.heap.size)
    (h : ∀ v' w', w'.ownsRow base 66 2 v' (n + 1) (xs ++ [.string x, .string y]) → w.grownBy w' v.ownBlock → wpList Tryz.prog ops Q rest (a.put o.dst v') w') : wpList Tryz.prog ops Q (o :: rest) a w := by
  obtain ⟨i0, hi, hz0, hz1, hz2⟩ := info66
  refine wpList_append_own w hgd s xo 153 ho base 66 i0 _ 2 32 u153S hi hz0 hz1 hz2 rfl (by decide) v n xs hs hown ⟨blk, 0, none⟩ 1 1 [.string x, .string y] hx rfl ?_ (by simp [Value.oneCell']) (by unfold maxLen; omega) (by omega) hbase (fun v' w' h2 h3 _ => h v' w' h2 h3)
  intro j u hj
  match j, hj with
  | 0, hj => simp at hj; subst hj; simpa [Addr.add] using hc
  | 1, hj => simp at hj; subst hj; simpa [Addr.add] using hc1
  | j + 2, hj => simp at hj
def IsText (x : Value) : Prop := ∃ s : ByteArray, x = .string s ∧ s.size ≤ 140737488351232
def UsRel (w : World) (n : Nat) (out i : Value) (wr : World) : Prop :=
  ∃ (k : Nat) (xs : List Value), k ≤ n ∧ i = .int .i64 k ∧ wr.ownsRow w.heap.size 66 2 out k xs ∧ (∀ x ∈ xs, IsText x) ∧ Below w.heap.size w wr
def UlPost (w : World) (n : Nat) (e : Ending) (w' : World) : Prop := ∃ v xs, e = .returned v ∧ w'.ownsRow w.heap.size 66 2 v n xs ∧ (∀ x ∈ xs, IsText x) ∧ Below w.heap.size w w'
set_option maxRecDepth 20000 in
set_option maxHeartbeats 1600000 in
theorem uids42 (n c : Nat) (p : Option Addr) (ss ts : Nat → ByteArray) (w : World) (h : UidRow w w.heap.size n p ss ts) :
    Calls Tryz.prog 42 #[.slice p n c] w (UlPost w n) := by
  obtain ⟨hn, b0, off, hp, hc⟩ := h
  go_enter Tryz.func42, Tryz.ntmps42
  go_wp2_with fail
  go_loopw [3, 8] (fun out i wr => UsRel w n out i wr) (fun _ i _ => n - (intOf i).toNat)
  case atStart => exact ⟨0, [], by omega, rfl, ⟨rfl, .inl ⟨rfl, rfl⟩⟩, by simp, Below.refl _ _⟩
  case round =>
    obtain ⟨wo, rfl⟩ : ∃ wo : World, wo = wr := ⟨_, rfl⟩
    obtain ⟨k, xs, hkn, rfl, hout, hxs, hbw⟩ := hrel
    by_cases hlt : k < n
    · obtain ⟨rfl, hbB⟩ := hp (by omega)
      obtain ⟨k0, k1, hs, ht⟩ := hc k hlt
      have q0 := (hbw.cell (p := ⟨b0, off + k * 2, none⟩) hbB).trans k0
      have q1 := (hbw.cell (p := ⟨b0, off + k * 2 + 1, none⟩) hbB).trans k1
      generalize ss k = s at *
      generalize ts k = t at *
      clear hp hc k0 k1
      go_wp2_with fail
      obtain ⟨W1, hW1⟩ : ∃ W1, wo.alloc (.cells #[.string s, .string t] 24) = W1 := ⟨_, rfl⟩
      rw [hW1]
      have b1 : Below wo.heap.size wo W1 := by rw [← hW1]; exact below_refl_alloc wo _
      clear hW1
      have hs1 := b1.size
      have hso := hbw.size
      refine (uid_c s t W1).mono ?_
      rintro e w2 ⟨rfl, hb2⟩
      have hb12 : Below wo.heap.size wo w2 := b1.trans (hb2.mono (by omega))
      have hout2 := ownsRow_below hout hb12
      have hs2 := hb2.size
      have hbw2 : Below w.heap.size w w2 := hbw.trans (hb12.mono (by omega))
      have hcn : (w2.alloc (.cells #[.string s, .string t] 66)).cell? ⟨w2.heap.size, 0, none⟩ = some (.string s) := blk1 (heap_alloc_new w2 _) 0
      have hcn1 : (w2.alloc (.cells #[.string s, .string t] 66)).cell? ⟨w2.heap.size, 1, none⟩ = some (.string t) := blk1 (heap_alloc_new w2 _) 1
      clear hout b1 hb2 hb12 q0 q1 hbw
      go_wp2_with ((with_reducible show wpList _ _ _ ({ dst := _, op := Op.call { callee := Callee.builtin Builtin.append, args := _, argTypes := _ }, type := _, pos := _, after := _, guard := _ } :: _) _ _); refine app153 rfl _ _ rfl w.heap.size _ _ _ rfl (hout2.alloc _) _ s t rfl hcn hcn1 (by omega) (by simp; omega) ?_)
      intro v' w3 hown' hg3
      have hb3 : Below w.heap.size w w3 := (hbw2.trans ((below_refl_alloc w2 _).mono (by omega))).grown hg3 (by simp; omega) (fun k e => (hout2.lt k e).1)
      have hxs3 : ∀ x ∈ xs ++ [.string s, .string t], IsText x := by
        intro x hx
        rcases List.mem_append.1 hx with h | h
        · exact hxs x h
        · simp at h
          rcases h with rfl | rfl
          · exact ⟨s, rfl, hs⟩
          · exact ⟨t, rfl, ht⟩
      clear hg3 hcn hcn1 hout2 hbw2
      go_wp2
      go_roundw
      case rel => exact ⟨k + 1, _, by omega, by go_num, hown', hxs3, hb3⟩
      case measure => simp [intOf]; omega
    · obtain rfl : k = n := by omega
      clear hp hc
      go_wp2
      go_ret
      exact ⟨_, xs, rfl, hout, hxs, hbw⟩
/-- What uids gives is a row of identifiers for NewEntityUIDSet. -/
theorem uidRow_of {w : World} {base n : Nat} {v : Value} {xs : List Value} (hn : n * 32 ≤ 140737488351232) (h : w.ownsRow base 66 2 v n xs) (hx : ∀ x ∈ xs, IsText x) :
    ∃ p c ss ts, v = .slice p n c ∧ UidRow w w.heap.size n p ss ts := by
  rcases h with ⟨hlen, ⟨rfl, rfl⟩ | ⟨g, cap, cur, rfl, hg, hgb, h1, h2, h3, h4⟩⟩
  · exact ⟨none, 0, fun _ => ⟨#[]⟩, fun _ => ⟨#[]⟩, rfl, hn, 0, 0, fun h => by omega, fun i hi => by omega⟩
  · have key : ∀ i, i < n * 2 → ∃ s : ByteArray, w.cell? ⟨g, i, none⟩ = some (.string s) ∧ s.size ≤ 140737488351232 ∧ s = (match xs.getD i undef with | .string s => s | _ => ⟨#[]⟩) := by
      intro i hi
      have hxi : i < xs.length := by omega
      obtain ⟨s, hs, hsz⟩ := hx xs[i] (List.getElem_mem hxi)
      refine ⟨s, ?_, hsz, ?_⟩
      · rw [blk1 hgb]
        have e1 : cur.toList[i]? = xs[i]? := by
          rw [← h4, List.getElem?_take]; simp [hi]
        rw [← Array.getElem?_toList, e1, List.getElem?_eq_getElem hxi, hs]
      · have : xs.getD i undef = xs[i] := by simp [hxi]
        rw [this, hs]
    refine ⟨_, cap, fun i => match xs.getD (i * 2) undef with | .string s => s | _ => ⟨#[]⟩, fun i => match xs.getD (i * 2 + 1) undef with | .string s => s | _ => ⟨#[]⟩, rfl, hn, g, 0, fun _ => ⟨rfl, (Array.getElem?_eq_some_iff.1 hgb).1⟩, fun i hi => ?_⟩
    obtain ⟨s, e1, e2, e3⟩ := key (i * 2) (by omega)
    obtain ⟨t, g1, g2, g3⟩ := key (i * 2 + 1) (by omega)
    simp only [Nat.zero_add]
    rw [← e3, ← g3]
    exact ⟨e1, g1, e2, g2⟩
end Go.Proofs.Exp
namespace Go.Proofs.Exp
open Go.RowKit
set_option linter.unusedVariables false
attribute [local go_sem] Oper.semAt_some
/-- One entity that comes in. -/
structure EntAt (w : World) (B b o : Nat) (good : Bool) where
  s : ByteArray
  t : ByteArray
  p0 : Option Addr
  n0 : Nat
  c0 : Nat
  p1 : Option Addr
  n1 : Nat
  c1 : Nat
  p2 : Option Addr
  n2 : Nat
  c2 : Nat
  p3 : Option Addr
  n3 : Nat
  c3 : Nat
  p4 : Option Addr
  n4 : Nat
  c4 : Nat
  ss : Nat → ByteArray
  ts : Nat → ByteArray
  k1 : Nat → ByteArray
  e2 : Nat → Value
  g2 : Nat → Bool
  k3 : Nat → ByteArray
  e4 : Nat → Value
  g4 : Nat → Bool
  hs : s.size ≤ 140737488351232
  ht : t.size ≤ 140737488351232
  q0 : w.cell? ⟨b, o, none⟩ = some (.string s)
  q1 : w.cell? ⟨b, o + 1, none⟩ = some (.string t)
  q2 : w.cell? ⟨b, o + 2, none⟩ = some (.slice p0 n0 c0)
  q3 : w.cell? ⟨b, o + 3, none⟩ = some (.slice p1 n1 c1)
  q4 : w.cell? ⟨b, o + 4, none⟩ = some (.slice p2 n2 c2)
  q5 : w.cell? ⟨b, o + 5, none⟩ = some (.slice p3 n3 c3)
  q6 : w.cell? ⟨b, o + 6, none⟩ = some (.slice p4 n4 c4)
  r0 : UidRow w B n0 p0 ss ts
  r1 : TextRow w B n1 p1 k1
  r2 : SixRow w B n2 p2 e2
  v2 : ∀ i, i < n2 → InV w B (e2 i) (g2 i)
  r3 : TextRow w B n3 p3 k3
  r4 : SixRow w B n4 p4 e4
  v4 : ∀ i, i < n4 → InV w B (e4 i) (g4 i)
  hg : good = ((decide (n1 = n2) && allB n2 g2) && (decide (n3 = n4) && allB n4 g4))
def EntRow (w : World) (B n : Nat) (p : Option Addr) (g : Nat → Bool) : Prop :=
  n * 152 ≤ 140737488351232 ∧ ∃ b off, (0 < n → p = some ⟨b, off, none⟩ ∧ b < B) ∧ ∀ i, i < n → Nonempty (EntAt w B b (off + i * 7) (g i))
def OwnE (w : World) (b n : Nat) : Prop := ∃ D : DataW Unit, w.ownsMap Tryz.prog 66 R1 b n D
theorem OwnE.made (w : World) : OwnE (w.alloc (.map #[] 0)) w.heap.size 0 := ⟨_, World.ownsMap_made w _ _ _⟩
theorem OwnE.kept {w w' : World} {b n : Nat} (h : OwnE w b n) (he : w'.heap[b]? = w.heap[b]?) : OwnE w' b n := by
  obtain ⟨D, es, clock, hb, r⟩ := h
  exact ⟨D, es, clock, he.trans hb, r⟩
theorem OwnE.lt {w : World} {b n : Nat} (h : OwnE w b n) : b < w.heap.size := by
  obtain ⟨D, h⟩ := h
  exact h.lt
theorem u99T : Tryz.prog.underlying 99 = some (.map 66 173) := by kernel_rfl
theorem OwnE.upd {w : World} {b n : Nat} (h : OwnE w b n) (hn : n ≤ 140737488351232) (s t : ByteArray) (hs : s.size ≤ 140737488351232) (ht : t.size ≤ 140737488351232) (x : Value) :
    ∃ w', (Instr.mapUpdate 99 (.map (some b)) (.agg #[.string s, .string t]) x).run Tryz.prog w = .ok () w' ∧ OwnE w' b (n + 1) ∧ w.grownBy w' (some b) := by
  obtain ⟨D, h⟩ := h
  obtain ⟨l, hl⟩ := keyOf66 s t hs ht
  obtain ⟨w', h1, h2, h3⟩ := h.update uid_keyed u99T (by unfold maxLen; omega) hl (val := x) (d := .map []) (ps := []) rfl
  exact ⟨w', h1, ⟨_, h2⟩, h3⟩
theorem UidRow.kept {w w' : World} {n : Nat} {p : Option Addr} {ss ts : Nat → ByteArray} (h : UidRow w w.heap.size n p ss ts) (hb : Below w.heap.size w w') : UidRow w' w'.heap.size n p ss ts := by
  obtain ⟨hn, b0, off, hp, hc⟩ := h
  refine ⟨hn, b0, off, fun h => ⟨(hp h).1, Nat.lt_of_lt_of_le (hp h).2 hb.size⟩, fun i hi => ?_⟩
  obtain ⟨c0, c1, c2, c3⟩ := hc i hi
  have hbl := (hp (by omega)).2
  exact ⟨(hb.cell (p := ⟨b0, off + i * 2, none⟩) hbl).trans c0, (hb.cell (p := ⟨b0, off + i * 2 + 1, none⟩) hbl).trans c1, c2, c3⟩
def ΦE (m e : Nat) (s t : ByteArray) (p0 : Option Addr) (n0 c0 : Nat) (m1 : Option Nat) (h1 : Int) (m2 : Option Nat) (h2 : Int) (i : Nat) (u : Value) (W : World) : Prop :=
  match i with
  | 0 => u = .map (some m)
  | 1 => u = .pointer (some ⟨e, 0, none⟩)
  | 2 => u = .agg #[.string s, .string t]
  | 3 => u = .agg #[.string s, .string t]
  | 4 => u = .pointer (some ⟨e, 0, none⟩)
  | 5 => u = .agg #[.string s, .string t]
  | 6 => u = .agg #[.string s, .string t]
  | 7 => u = .pointer (some ⟨e, 2, none⟩)
  | 8 => u = .slice p0 n0 c0
  | 9 => ∃ p c ss ts, u = .slice p n0 c ∧ UidRow W W.heap.size n0 p ss ts
  | 10 => ∃ b, u = .agg #[.map (some b)]
  | 11 => u = .agg #[.map m1, .int .u64 h1]
  | 12 => u = .agg #[.map m2, .int .u64 h2]
  | _ => True
theorem ΦE.kept {m e : Nat} {s t : ByteArray} {p0 : Option Addr} {n0 c0 : Nat} {m1 : Option Nat} {h1 : Int} {m2 : Option Nat} {h2 : Int} {i : Nat} {u : Value} {w1 w2 : World} (hE : Below w1.heap.size w1 w2) (h : ΦE m e s t p0 n0 c0 m1 h1 m2 h2 i u w1) : ΦE m e s t p0 n0 c0 m1 h1 m2 h2 i u w2 := by
  unfold ΦE at h ⊢
  split <;> first | exact trivial | exact h | skip
  obtain ⟨p, c, ss, ts, h1, h2⟩ := h
  exact ⟨p, c, ss, ts, h1, h2.kept hE⟩
theorem field81_0 (w : World) (b : Nat) : (Instr.fieldAt 81 (.pointer (some ⟨b, 0, none⟩)) 0).run Tryz.prog w = .ok (.pointer (some ⟨b, 0, none⟩)) w := by kernel_rfl
theorem field81_1 (w : World) (b : Nat) : (Instr.fieldAt 81 (.pointer (some ⟨b, 0, none⟩)) 1).run Tryz.prog w = .ok (.pointer (some ⟨b, 2, none⟩)) w := by kernel_rfl
theorem load24 (w : World) (b : Nat) (s t : ByteArray) (h0 : w.cell? ⟨b, 0, none⟩ = some (.string s)) (h1 : w.cell? ⟨b, 1, none⟩ = some (.string t)) : (Instr.loadAt 24 (.pointer (some ⟨b, 0, none⟩))).run Tryz.prog w = .ok (.agg #[.string s, .string t]) w := by
  go_simp
theorem load79 (w : World) (b o : Nat) (v : Value) (h0 : w.cell? ⟨b, o, none⟩ = some v) : (Instr.loadAt 79 (.pointer (some ⟨b, o, none⟩))).run Tryz.prog w = .ok v w := by
  go_simp
theorem load52 (w : World) (b : Nat) (u v : Value) (h0 : w.cell? ⟨b, 0, none⟩ = some u) (h1 : w.cell? ⟨b, 1, none⟩ = some v) : (Instr.loadAt 52 (.pointer (some ⟨b, 0, none⟩))).run Tryz.prog w = .ok (.agg #[u, v]) w := by
  go_simp
theorem build173 (w : World) (s t : ByteArray) (b : Nat) (m1 : Option Nat) (h1 : Int) (m2 : Option Nat) (h2 : Int) :
    (Instr.build 173 #[(0, .agg #[.string s, .string t]), (1, .agg #[.map (some b)]), (2, .agg #[.map m1, .int .u64 h1]), (3, .agg #[.map m2, .int .u64 h2])]).run Tryz.prog w = .ok (.agg #[.string s, .string t, .map (some b), .map m1, .int .u64 h1, .map m2, .int .u64 h2]) w := by kernel_rfl
theorem wpo_build4 {P : Program} {o : Oper} {a : Act} {w : World} {K : Act → World → Prop} {Q : Exit → Act → World → Prop} (t : TypeId) (x0 x1 x2 x3 : Operand) (ho : o.op = .build t #[(0, x0), (1, x1), (2, x2), (3, x3)]) (v0 v1 v2 v3 : Value) (h0 : a.eval x0 = v0) (h1 : a.eval x1 = v1) (h2 : a.eval x2 = v2) (h3 : a.eval x3 = v3)
    (v : Value) (hr : (Instr.build t #[(0, v0), (1, v1), (2, v2), (3, v3)]).run P w = .ok v w) (h : K (a.put o.dst v) w) : o.wp P a w K Q := by
  unfold Oper.wp
  simp only [execOp, ho, List.map_toArray, List.map_cons, List.map_nil, h0, h1, h2, h3, Sem.run_bind, hr, Result.andThen_ok, Sem.run_pure, Oper.upon]
  exact h
def EsRel (w : World) (n : Nat) (g : Nat → Bool) (i : Value) (wr : World) : Prop :=
  ∃ k : Nat, k ≤ n ∧ i = .int .i64 k ∧ (∀ j, j < k → g j = true) ∧ OwnE wr w.heap.size k ∧ Below w.heap.size w wr
def EsPost (w : World) (ok : Bool) (e : Ending) (w' : World) : Prop := ∃ m, e = .returned (.tuple #[.map m, .bool ok]) ∧ Below w.heap.size w w'
set_option maxRecDepth 20000 in
set_option maxHeartbeats 1600000 in
theorem entities_c (w0 : World) (B n c : Nat) (p : Option Addr) (g : Nat → Bool) (hrow : EntRow w0 B n p g) (w : World) (hw : Below B w0 w) (hB : B ≤ w.heap.size) :
    Calls Tryz.prog 23 #[.slice p n c] w (EsPost w (allB n g)) := by
  obtain ⟨hn, b, off, hp, hc⟩ := hrow
  have hmm := run_makeMap_0 99 66 173 u99T
  go_enter Tryz.func23, Tryz.ntmps23
  go_wp2_with fail
  go_loopw [13] (fun i wr => EsRel w n g i wr) (fun i _ => n - (intOf i).toNat)
  case atStart => exact ⟨0, by omega, rfl, by omega, OwnE.made w, below_refl_alloc w _⟩
  case round =>
    clear hmm
    obtain ⟨wo, rfl⟩ : ∃ wo : World, wo = wr := ⟨_, rfl⟩
    obtain ⟨k, hkn, rfl, hgk, hm, hbw⟩ := hrel
    by_cases hlt : k < n
    · obtain ⟨rfl, hbB⟩ := hp (by omega)
      obtain ⟨⟨s, t, p0, n0, c0, p1, n1, c1, p2, n2, c2, p3, n3, c3, p4, n4, c4, ss, ts, k1, e2, g2, k3, e4, g4, hs, ht, q0, q1, q2, q3, q4, q5, q6, r0, r1, r2, v2, r3, r4, v4, hg⟩⟩ := hc k hlt
      clear hc hp
      have tr : ∀ (o : Nat) (c : Value), w0.cell? ⟨b, o, none⟩ = some c → wo.cell? ⟨b, o, none⟩ = some c := fun o c h => (hbw.cell (p := ⟨b, o, none⟩) (by show b < _; omega)).trans ((hw.cell (p := ⟨b, o, none⟩) hbB).trans h)
      have z0 := tr _ _ q0; have z1 := tr _ _ q1; have z2 := tr _ _ q2; have z3 := tr _ _ q3; have z4 := tr _ _ q4; have z5 := tr _ _ q5; have z6 := tr _ _ q6
      clear tr q0 q1 q2 q3 q4 q5 q6
      go_wp2_with fail
      obtain ⟨W1, hW1⟩ : ∃ W1, wo.alloc (.cells #[.string s, .string t, .slice p0 n0 c0, .slice p1 n1 c1, .slice p2 n2 c2, .slice p3 n3 c3, .slice p4 n4 c4] 81) = W1 := ⟨_, rfl⟩
      rw [hW1]
      have b1 : Below wo.heap.size wo W1 := by rw [← hW1]; exact below_refl_alloc wo _
      have e1 : W1.heap[wo.heap.size]? = some (.cells #[.string s, .string t, .slice p0 n0 c0, .slice p1 n1 c1, .slice p2 n2 c2, .slice p3 n3 c3, .slice p4 n4 c4] 81 (0, 0)) := by rw [← hW1]; exact heap_alloc_new wo _
      have s1 : W1.heap.size = wo.heap.size + 1 := by rw [← hW1]; simp
      clear hW1
      have hso := hbw.size
      have hlm := hm.lt
      refine (record_c w0 B n1 c1 n2 c2 p1 p2 k1 e2 g2 r1 r2 (fun i hi => value_any (v2 i hi)) W1 (hw.trans ((hbw.mono (by omega)).trans (b1.mono (by omega)))) (by omega)).mono ?_
      rintro e w2 ⟨m1, h1, rfl, hb2, _⟩
      have hs2 := hb2.size
      have bo2 : Below wo.heap.size wo w2 := b1.trans (hb2.mono (by omega))
      have e2' := (hb2.block wo.heap.size (by omega)).trans e1
      clear b1 e1 hb2 z0 z1 z2 z3 z4 z5 z6 r1 r2 v2
      cases hok1 : (decide (n1 = n2) && allB n2 g2) with
      | false =>
        have hgf : g k = false := by rw [hg, hok1]; rfl
        have hall := allB_false hlt hgf
        go_wp2
        go_ret2
        exact ⟨none, by rw [hall]; rfl, hbw.trans ((bo2.alloc (by omega) _).mono (by omega))⟩
      | true =>
        have y0 : ∀ o, (w2.alloc o).cell? ⟨wo.heap.size, 5, none⟩ = some (.slice p3 n3 c3) := fun o => blk1 ((Below.heap_alloc w2 o _ (by omega)).trans e2') 5
        have y1 : ∀ o, (w2.alloc o).cell? ⟨wo.heap.size, 6, none⟩ = some (.slice p4 n4 c4) := fun o => blk1 ((Below.heap_alloc w2 o _ (by omega)).trans e2') 6
        go_wp2_with fail
        obtain ⟨W3, hW3⟩ : ∃ W3, w2.alloc (.cells #[.map m1, .int .u64 h1] 52) = W3 := ⟨_, rfl⟩
        rw [hW3]
        have b3 : Below w2.heap.size w2 W3 := by rw [← hW3]; exact below_refl_alloc w2 _
        have f3 : W3.heap[w2.heap.size]? = some (.cells #[.map m1, .int .u64 h1] 52 (0, 0)) := by rw [← hW3]; exact heap_alloc_new w2 _
        have s3 : W3.heap.size = w2.heap.size + 1 := by rw [← hW3]; simp
        clear hW3 y0 y1
        have bo3 : Below wo.heap.size wo W3 := bo2.trans (b3.mono (by omega))
        refine (record_c w0 B n3 c3 n4 c4 p3 p4 k3 e4 g4 r3 r4 (fun i hi => value_any (v4 i hi)) W3 (hw.trans ((hbw.mono (by omega)).trans (bo3.mono (by omega)))) (by omega)).mono ?_
        rintro e w4 ⟨m2, h2, rfl, hb4, _⟩
        have hs4 := hb4.size
        have bo4 : Below wo.heap.size wo w4 := bo3.trans (hb4.mono (by omega))
        have e4' := (hb4.block wo.heap.size (by omega)).trans ((b3.block wo.heap.size (by omega)).trans e2')
        have f4 := (hb4.block w2.heap.size (by omega)).trans f3
        clear b3 f3 bo2 e2' hb4 bo3 r3 r4 v4
        cases hok2 : (decide (n3 = n4) && allB n4 g4) with
        | false =>
          have hgf : g k = false := by rw [hg, hok1, hok2]; rfl
          have hall := allB_false hlt hgf
          go_wp2
          go_ret2
          exact ⟨none, by rw [hall]; rfl, hbw.trans ((bo4.alloc (by omega) _).mono (by omega))⟩
        | true =>
          have hgt : g k = true := by rw [hg, hok1, hok2]; rfl
          go_wp2_with fail
          obtain ⟨W5, hW5⟩ : ∃ W5, w4.alloc (.cells #[.map m2, .int .u64 h2] 52) = W5 := ⟨_, rfl⟩
          rw [hW5]
          have b5 : Below w4.heap.size w4 W5 := by rw [← hW5]; exact below_refl_alloc w4 _
          have g5 : W5.heap[w4.heap.size]? = some (.cells #[.map m2, .int .u64 h2] 52 (0, 0)) := by rw [← hW5]; exact heap_alloc_new w4 _
          have s5 : W5.heap.size = w4.heap.size + 1 := by rw [← hW5]; simp
          clear hW5
          have e5 := (b5.block wo.heap.size (by omega)).trans e4'
          have f5 := (b5.block w2.heap.size (by omega)).trans f4
          have bo5 : Below wo.heap.size wo W5 := bo4.trans (b5.mono (by omega))
          have m5 := hm.kept (bo5.block w.heap.size (by omega))
          have r5 : UidRow W5 W5.heap.size n0 p0 ss ts := by
            obtain ⟨hn, b0, off, hp, hc⟩ := r0
            have hb05 : Below B w0 W5 := hw.trans ((hbw.mono (by omega)).trans (bo5.mono (by omega)))
            refine ⟨hn, b0, off, fun h => ⟨(hp h).1, by have := (hp h).2; omega⟩, fun i hi => ?_⟩
            obtain ⟨c0, c1, c2, c3⟩ := hc i hi
            have hbl := (hp (by omega)).2
            exact ⟨(hb05.cell (p := ⟨b0, off + i * 2, none⟩) hbl).trans c0, (hb05.cell (p := ⟨b0, off + i * 2 + 1, none⟩) hbl).trans c1, c2, c3⟩
          clear e4' f4 b5 bo4 hm r0
          have hso5 := bo5.size
          refine wp_region_last (by kernel_rfl) (by kernel_rfl) 14 _ rfl rfl (by kernel_rfl) (fun u v => Below u.heap.size u v) (ΦE w.heap.size wo.heap.size s t p0 n0 c0 m1 h1 m2 h2) ?e0 (fun _ _ _ h k => h.trans (k.mono h.size)) ?hphi ?hop ?last
          case e0 => exact (Below.refl _ _).drew
          case hphi => intro j u w1 w2 hE h; exact h.kept hE
          case hop =>
            intro i o hiL hi
            match i, hi with
            | 0, hi =>
              obtain rfl := Option.some.inj hi
              intro a w6 hE hoth hpre
              exact wpo_move (.tmp 4) rfl _ (hoth 4 (by decide)) ⟨Below.refl _ _, _, rfl, rfl⟩
            | 1, hi =>
              obtain rfl := Option.some.inj hi
              intro a w6 hE hoth hpre
              exact wpo_fieldAddr 81 (.tmp 6) 0 rfl _ (hoth 6 (by decide)) _ (field81_0 w6 _) ⟨Below.refl _ _, _, rfl, rfl⟩
            | 2, hi =>
              obtain rfl := Option.some.inj hi
              intro a w6 hE hoth hpre
              have h1 := hpre { on := 1, ground := .data } (by simp) rfl _ rfl
              have e6 := (hE.block wo.heap.size (by omega)).trans e5
              exact wpo_load 24 (.tmp 38) rfl _ h1 _ (load24 w6 _ s t (blk1 e6 0) (blk1 e6 1)) ⟨Below.refl _ _, _, rfl, rfl⟩
            | 3, hi =>
              obtain rfl := Option.some.inj hi
              intro a w6 hE hoth hpre
              have h1 := hpre { on := 2, ground := .data } (by simp) rfl _ rfl
              refine wpo_call 14 _ _ rfl _ Tryz.func14 (by kernel_rfl) (by kernel_rfl) [.agg #[.string s, .string t]] ?_ (fun y w' => y = .agg #[.string s, .string t] ∧ Below w6.heap.size w6 w') ?_ ?_
              · have h1' : a.eval (.tmp 39) = .agg #[.string s, .string t] := h1
                simp only [List.map_cons, List.map_nil, h1']
              · exact Calls.mono (uid_c s t w6) (fun e w' h => ⟨_, h.1, rfl, h.2⟩)
              · rintro y w' ⟨rfl, hb⟩
                exact ⟨hb, _, rfl, rfl⟩
            | 4, hi =>
              obtain rfl := Option.some.inj hi
              intro a w6 hE hoth hpre
              exact wpo_fieldAddr 81 (.tmp 6) 0 rfl _ (hoth 6 (by decide)) _ (field81_0 w6 _) ⟨Below.refl _ _, _, rfl, rfl⟩
            | 5, hi =>
              obtain rfl := Option.some.inj hi
              intro a w6 hE hoth hpre
              have h1 := hpre { on := 4, ground := .data } (by simp) rfl _ rfl
              have e6 := (hE.block wo.heap.size (by omega)).trans e5
              exact wpo_load 24 (.tmp 41) rfl _ h1 _ (load24 w6 _ s t (blk1 e6 0) (blk1 e6 1)) ⟨Below.refl _ _, _, rfl, rfl⟩
            | 6, hi =>
              obtain rfl := Option.some.inj hi
              intro a w6 hE hoth hpre
              have h1 := hpre { on := 5, ground := .data } (by simp) rfl _ rfl
              refine wpo_call 14 _ _ rfl _ Tryz.func14 (by kernel_rfl) (by kernel_rfl) [.agg #[.string s, .string t]] ?_ (fun y w' => y = .agg #[.string s, .string t] ∧ Below w6.heap.size w6 w') ?_ ?_
              · have h1' : a.eval (.tmp 42) = .agg #[.string s, .string t] := h1
                simp only [List.map_cons, List.map_nil, h1']
              · exact Calls.mono (uid_c s t w6) (fun e w' h => ⟨_, h.1, rfl, h.2⟩)
              · rintro y w' ⟨rfl, hb⟩
                exact ⟨hb, _, rfl, rfl⟩
            | 7, hi =>
              obtain rfl := Option.some.inj hi
              intro a w6 hE hoth hpre
              exact wpo_fieldAddr 81 (.tmp 6) 1 rfl _ (hoth 6 (by decide)) _ (field81_1 w6 _) ⟨Below.refl _ _, _, rfl, rfl⟩
            | 8, hi =>
              obtain rfl := Option.some.inj hi
              intro a w6 hE hoth hpre
              have h1 := hpre { on := 7, ground := .data } (by simp) rfl _ rfl
              have e6 := (hE.block wo.heap.size (by omega)).trans e5
              exact wpo_load 79 (.tmp 44) rfl _ h1 _ (load79 w6 _ 2 _ (blk1 e6 2)) ⟨Below.refl _ _, _, rfl, rfl⟩
            | 9, hi =>
              obtain rfl := Option.some.inj hi
              intro a w6 hE hoth hpre
              have h1 := hpre { on := 8, ground := .data } (by simp) rfl _ rfl
              have r6 := r5.kept hE
              refine wpo_call 42 _ _ rfl _ Tryz.func42 (by kernel_rfl) (by kernel_rfl) [.slice p0 n0 c0] ?_ (fun y w' => Below w6.heap.size w6 w' ∧ ∃ p c ss ts, y = .slice p n0 c ∧ UidRow w' w'.heap.size n0 p ss ts) ?_ ?_
              · have h1' : a.eval (.tmp 45) = .slice p0 n0 c0 := h1
                simp only [List.map_cons, List.map_nil, h1']
              · refine Calls.mono (uids42 n0 c0 p0 ss ts w6 r6) ?_
                rintro e w' ⟨v, xs, rfl, hro, hxs, hb⟩
                exact ⟨_, rfl, hb, uidRow_of r6.1 hro hxs⟩
              · rintro y w' ⟨hb, hrow⟩
                exact ⟨hb, _, rfl, hrow⟩
            | 10, hi =>
              obtain rfl := Option.some.inj hi
              intro a w6 hE hoth hpre
              obtain ⟨p, c, ss, ts, h1, h2⟩ := hpre { on := 9, ground := .data } (by simp) rfl _ rfl
              refine wpo_call 49 _ _ rfl _ Tryz.func49 (by kernel_rfl) (by kernel_rfl) [.slice p n0 c] ?_ (fun y w' => Below w6.heap.size w6 w' ∧ ∃ b, y = .agg #[.map (some b)]) ?_ ?_
              · have h1' : a.eval (.tmp 46) = .slice p n0 c := h1
                simp only [List.map_cons, List.map_nil, h1']
              · refine Calls.mono (uidset49 n0 c p ss ts w6 h2) ?_
                rintro e w' ⟨b, rfl, hb⟩
                exact ⟨_, rfl, hb, b, rfl⟩
              · rintro y w' ⟨hb, b, rfl⟩
                exact ⟨hb, _, rfl, b, rfl⟩
            | 11, hi =>
              obtain rfl := Option.some.inj hi
              intro a w6 hE hoth hpre
              have e6 := (hE.block w2.heap.size (by omega)).trans f5
              exact wpo_load 52 (.tmp 7) rfl _ (hoth 7 (by decide)) _ (load52 w6 _ _ _ (blk1 e6 0) (blk1 e6 1)) ⟨Below.refl _ _, _, rfl, rfl⟩
            | 12, hi =>
              obtain rfl := Option.some.inj hi
              intro a w6 hE hoth hpre
              have e6 := (hE.block w4.heap.size (by omega)).trans g5
              exact wpo_load 52 (.tmp 9) rfl _ (hoth 9 (by decide)) _ (load52 w6 _ _ _ (blk1 e6 0) (blk1 e6 1)) ⟨Below.refl _ _, _, rfl, rfl⟩
            | 13, hi =>
              obtain rfl := Option.some.inj hi
              intro a w6 hE hoth hpre
              have h1 := hpre { on := 6, ground := .data } (by simp) rfl _ rfl
              obtain ⟨bb, h2⟩ := hpre { on := 10, ground := .data } (by simp) rfl _ rfl
              have h3 := hpre { on := 11, ground := .data } (by simp) rfl _ rfl
              have h4 := hpre { on := 12, ground := .data } (by simp) rfl _ rfl
              exact wpo_build4 173 (.tmp 43) (.tmp 47) (.tmp 48) (.tmp 49) rfl _ _ _ _ h1 h2 h3 h4 _ (build173 w6 _ _ _ _ _ _ _) ⟨Below.refl _ _, _, rfl, trivial⟩
            | i + 14, hi => omega
          case last =>
            intro listed a w6 hF hl
            have h3 : a.tmps.getD 37 undef = .map (some w.heap.size) := hF.facts 0 _ rfl (hl 0 (by omega))
            have h4 : a.tmps.getD 40 undef = .agg #[.string s, .string t] := hF.facts 3 _ rfl (hl 3 (by omega))
            have hE6 := hF.ext
            have m6 := m5.kept (hE6.block w.heap.size (by omega))
            obtain ⟨w7, hr7, m7, g7⟩ := m6.upd (by omega) s t hs ht (a.tmps.getD 50 undef)
            refine wpo_mapUpdate 99 (.tmp 37) (.tmp 40) (.tmp 50) rfl _ _ _ h3 h4 rfl w7 hr7 ?_
            obtain ⟨vs, rfl, hvs⟩ := frame2 hF
            have hEE : ExB w.heap.size wo w7 := (ExB.below bo5).trans ((ExB.below hE6).trans (ExB.grown g7))
            have hb7 : Below w.heap.size w w7 := hbw.trans (hEE.toBelow (Nat.le_refl _) (by omega))
            clear hF hl h3 h4 hvs hr7 m6 g7 hE6 m5 e5 f5 g5 bo5 r5 hEE hbw
            rw [show dstsOf _ = [37, 38, 39, 40, 41, 42, 43, 44, 45, 46, 47, 48, 49, 50] from rfl]
            simp (config := { decide := true }) only [List.mapIdx_toArray, List.mapIdx_cons, List.mapIdx_nil, Nat.zero_add, Nat.reduceAdd, if_true, if_false, Act.put]
            go_wp2
            go_roundw
            case rel =>
              refine ⟨k + 1, by omega, by go_num, fun j hj => ?_, m7, hb7⟩
              by_cases hjk : j = k
              · rw [hjk]; exact hgt
              · exact hgk j (by omega)
            case measure => simp [intOf]; omega
    · obtain rfl : k = n := by omega
      clear hp hc
      go_wp2
      go_ret2
      exact ⟨_, by rw [allB_true.2 hgk]; rfl, hbw⟩
end Go.Proofs.Exp
