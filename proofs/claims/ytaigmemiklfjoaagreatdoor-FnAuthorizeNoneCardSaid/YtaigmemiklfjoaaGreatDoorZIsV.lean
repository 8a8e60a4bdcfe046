/- Part of the proof of FnAuthorizeNone: without policies no request is allowed; for every world that comes in. -/
import Derived.Test.YtaigmemiklfjoaaGreatDoorZNewRec
set_option linter.unusedSimpArgs false
set_option linter.unusedVariables false
set_option linter.unnecessarySimpa false
namespace Go.Proofs.Exp
open Go.RowKit
set_option linter.unusedVariables false
/-- Every map that a value reaches lies at lo or above. -/
inductive Fr (w : World) (lo : Nat) : Value → Prop
  | other (t : TypeId) (y : Value) (h1 : t ≠ 180) (h2 : t ≠ 52) : Fr w lo (.iface t y)
  | mapNil (t : TypeId) (h : Int) : Fr w lo (.iface t (.agg #[.map none, .int .u64 h]))
  | map (t : TypeId) (b : Nat) (es : Array MapEntry) (clock : Nat) (h : Int) (hlo : lo ≤ b) (hb : w.heap[b]? = some (.map es clock)) (hv : ∀ e ∈ es.toList, Fr w lo e.val) : Fr w lo (.iface t (.agg #[.map (some b), .int .u64 h]))
/-- The maps at lo and above stay. -/
def KeepM (lo : Nat) (w w' : World) : Prop := w.heap.size ≤ w'.heap.size ∧ ∀ c es k, lo ≤ c → w.heap[c]? = some (.map es k) → w'.heap[c]? = some (.map es k)
theorem KeepM.refl (lo : Nat) (w : World) : KeepM lo w w := ⟨Nat.le_refl _, fun _ _ _ _ h => h⟩
theorem KeepM.trans {lo : Nat} {a b c : World} (h : KeepM lo a b) (k : KeepM lo b c) : KeepM lo a c := ⟨Nat.le_trans h.1 k.1, fun d es m hl hd => k.2 d es m hl (h.2 d es m hl hd)⟩
theorem KeepM.mono {lo lo' : Nat} {a b : World} (h : KeepM lo a b) (hl : lo ≤ lo') : KeepM lo' a b := ⟨h.1, fun d es m hd => h.2 d es m (Nat.le_trans hl hd)⟩
theorem KeepM.below {lo : Nat} {a b : World} (h : Below a.heap.size a b) : KeepM lo a b := ⟨h.size, fun c es k _ hc => (h.block c (Array.getElem?_eq_some_iff.1 hc).1).trans hc⟩
def IsV (w : World) (lo : Nat) (v : Value) : Prop := IsVal w w.heap.size v ∧ Fr w lo v
theorem Fr.mono {w : World} {lo lo' : Nat} {v : Value} (h : Fr w lo v) (hl : lo' ≤ lo) : Fr w lo' v := by
  induction h with
  | other t y h1 h2 => exact .other t y h1 h2
  | mapNil t h => exact .mapNil t h
  | map t b es clock h h1 h2 h3 ih => exact .map t b es clock h (by omega) h2 ih
theorem IsV.mono {w : World} {lo lo' : Nat} {v : Value} (h : IsV w lo v) (hl : lo' ≤ lo) : IsV w lo' v := ⟨h.1, h.2.mono hl⟩
theorem Fr.kept {w w' : World} {lo : Nat} {v : Value} (h : Fr w lo v) (hk : KeepM lo w w') : Fr w' lo v := by
  induction h with
  | other t y h1 h2 => exact .other t y h1 h2
  | mapNil t h => exact .mapNil t h
  | map t b es clock h h1 h2 h3 ih => exact .map t b es clock h h1 (hk.2 _ _ _ h1 h2) ih
theorem Fr.inv {w : World} {lo : Nat} {t : TypeId} {b : Nat} {h : Int} (ht : t = 180 ∨ t = 52) (hf : Fr w lo (.iface t (.agg #[.map (some b), .int .u64 h]))) : lo ≤ b ∧ ∃ es clock, w.heap[b]? = some (.map es clock) ∧ ∀ e ∈ es.toList, Fr w lo e.val := by
  cases hf with
  | other t y h1 h2 => rcases ht with rfl | rfl <;> contradiction
  | map t b es clock h h1 h2 h3 => exact ⟨h1, es, clock, h2, h3⟩
theorem IsVal.keptM {w w' : World} {B B' lo : Nat} {v : Value} (h : IsVal w B v) (hf : Fr w lo v) (hk : KeepM lo w w') (hB : B ≤ B') : IsVal w' B' v := by
  induction h with
  | bool x => exact .bool x
  | long n => exact .long n
  | str s hs => exact .str s hs
  | uid s t hs ht => exact .uid s t hs ht
  | dec n => exact .dec n
  | dt n => exact .dt n
  | dur n => exact .dur n
  | setNil h => exact .setNil h
  | recNil h => exact .recNil h
  | set b es clock h h1 h2 h3 h4 h5 ih =>
    obtain ⟨g1, es', clock', g2, g3⟩ := hf.inv (.inl rfl)
    rw [h2] at g2; cases g2
    exact .set b es clock h (by omega) (hk.2 _ _ _ g1 h2) h3 h4 (fun e he => ih e he (g3 e he))
  | recd b es clock h h1 h2 h3 h4 h5 ih =>
    obtain ⟨g1, es', clock', g2, g3⟩ := hf.inv (.inr rfl)
    rw [h2] at g2; cases g2
    exact .recd b es clock h (by omega) (hk.2 _ _ _ g1 h2) h3 h4 (fun e he => ih e he (g3 e he))
theorem IsV.kept {w w' : World} {lo : Nat} {v : Value} (h : IsV w lo v) (hk : KeepM lo w w') : IsV w' lo v := ⟨h.1.keptM h.2 hk hk.1, h.2.kept hk⟩
theorem IsV.below {w w' : World} {lo : Nat} {v : Value} (h : IsV w lo v) (hk : Below w.heap.size w w') : IsV w' lo v := h.kept (.below hk)
/-- A set out of a map of its elements. -/
theorem IsV.ofSet {w : World} {lo b : Nat} {h : Int} {V : Value → Prop} (hlo : lo ≤ b) (hm : MapHas w b KU V 140737488351232) (hV : ∀ v, V v → IsV w lo v) : IsV w lo (.iface 180 (.agg #[.map (some b), .int .u64 h])) := by
  have hlt := hm.lt
  obtain ⟨es, clock, hb, hn, he⟩ := hm
  exact ⟨.set b es clock h hlt hb hn (fun e h => ⟨(he e h).1, (he e h).2.1⟩) (fun e h => (hV _ (he e h).2.2).1), .map 180 b es clock h hlo hb (fun e h => (hV _ (he e h).2.2).2)⟩
theorem IsV.ofRec {w : World} {lo b : Nat} {h : Int} {V : Value → Prop} (hlo : lo ≤ b) (hm : MapHas w b KS V 140737488351232) (hV : ∀ v, V v → IsV w lo v) : IsV w lo (.iface 52 (.agg #[.map (some b), .int .u64 h])) := by
  have hlt := hm.lt
  obtain ⟨es, clock, hb, hn, he⟩ := hm
  exact ⟨.recd b es clock h hlt hb hn (fun e h => ⟨(he e h).1, (he e h).2.1⟩) (fun e h => (hV _ (he e h).2.2).1), .map 52 b es clock h hlo hb (fun e h => (hV _ (he e h).2.2).2)⟩

/-! ### what comes in -/
def allB (n : Nat) (g : Nat → Bool) : Bool := (List.range n).all g
theorem allB_true {n : Nat} {g : Nat → Bool} : allB n g = true ↔ ∀ i, i < n → g i = true := by simp [allB, List.all_eq_true]
theorem allB_false {n k : Nat} {g : Nat → Bool} (hk : k < n) (h : g k = false) : allB n g = false := by
  cases hb : allB n g with
  | false => rfl
  | true => rw [allB_true.1 hb k hk] at h; cases h
def goodOf (kd n : Int) (nk nl : Nat) (g : Nat → Bool) : Bool :=
  if kd = 1 then decide (n = 0 ∨ n = 1) else if kd = 5 then allB nl g else if kd = 6 then decide (nk = nl) && allB nl g else decide (1 ≤ kd ∧ kd ≤ 9)
/-- A row of texts. -/
def TextRow (w : World) (B n : Nat) (p : Option Addr) (ks : Nat → ByteArray) : Prop :=
  n * 16 ≤ 140737488351232 ∧ ∃ b off, (0 < n → p = some ⟨b, off, none⟩ ∧ b < B) ∧ ∀ i, i < n → w.cell? ⟨b, off + i, none⟩ = some (.string (ks i)) ∧ (ks i).size ≤ 140737488351232
/-- Six cells. -/
def Six (w : World) (b o : Nat) (v : Value) : Prop :=
  ∃ (kd n : Int) (s t : ByteArray) (pk : Option Addr) (nk ck : Nat) (pl : Option Addr) (nl cl : Nat), v = .agg #[.int .i64 kd, .int .i64 n, .string s, .string t, .slice pk nk ck, .slice pl nl cl] ∧
    w.cell? ⟨b, o, none⟩ = some (.int .i64 kd) ∧ w.cell? ⟨b, o + 1, none⟩ = some (.int .i64 n) ∧ w.cell? ⟨b, o + 2, none⟩ = some (.string s) ∧ w.cell? ⟨b, o + 3, none⟩ = some (.string t) ∧ w.cell? ⟨b, o + 4, none⟩ = some (.slice pk nk ck) ∧ w.cell? ⟨b, o + 5, none⟩ = some (.slice pl nl cl)
def SixRow (w : World) (B n : Nat) (p : Option Addr) (el : Nat → Value) : Prop :=
  n * 96 ≤ 140737488351232 ∧ ∃ b off, (0 < n → p = some ⟨b, off, none⟩ ∧ b < B) ∧ ∀ i, i < n → Six w b (off + i * 6) (el i)
inductive InV (w : World) (B : Nat) : Value → Bool → Prop
  | mk (kd n : Int) (s t : ByteArray) (pk : Option Addr) (nk ck : Nat) (pl : Option Addr) (nl cl : Nat) (ks : Nat → ByteArray) (el : Nat → Value) (g : Nat → Bool)
      (hs : s.size ≤ 140737488351232) (ht : t.size ≤ 140737488351232) (hk : TextRow w B nk pk ks) (hl : SixRow w B nl pl el) (hr : ∀ i, i < nl → InV w B (el i) (g i)) :
      InV w B (.agg #[.int .i64 kd, .int .i64 n, .string s, .string t, .slice pk nk ck, .slice pl nl cl]) (goodOf kd n nk nl g)
end Go.Proofs.Exp
namespace Go.Proofs.Exp
open Go.RowKit
set_option linter.unusedVariables false
attribute [local go_sem] Oper.semAt_some
def VPost (w : World) (g : Bool) (e : Ending) (w' : World) : Prop := ∃ x, e = .returned (.tuple #[x, .bool g]) ∧ Below w.heap.size w w' ∧ (g = true → IsV w' w.heap.size x)
def ValueOK (w0 : World) (B : Nat) (v : Value) (g : Bool) : Prop := ∀ w, Below B w0 w → B ≤ w.heap.size → Calls Tryz.prog 24 #[v] w (VPost w g)
def VsPost (w : World) (n : Nat) (g : Nat → Bool) (e : Ending) (w' : World) : Prop :=
  ∃ v, e = .returned (.tuple #[v, .bool (allB n g)]) ∧ Below w.heap.size w w' ∧ (allB n g = true → ∃ xs, w'.ownsRow w.heap.size 44 1 v n xs ∧ ∀ x ∈ xs, IsV w' w.heap.size x) ∧ (allB n g = false → v = .slice none 0 0)
def OutRel (w : World) (n : Nat) (g : Nat → Bool) (out i : Value) (wr : World) : Prop :=
  ∃ (k : Nat) (xs : List Value), k ≤ n ∧ i = .int .i64 k ∧ (∀ j, j < k → g j = true) ∧ wr.ownsRow w.heap.size 44 1 out k xs ∧ (∀ x ∈ xs, IsV wr w.heap.size x) ∧ Below w.heap.size w wr
theorem u175S : Tryz.prog.underlying 175 = some (.slice 44) := by kernel_rfl
theorem ownsRow_below {w w' : World} {base : Nat} {e : TypeId} {size : Nat} {v : Value} {n : Nat} {xs : List Value} (h : w.ownsRow base e size v n xs) (hb : Below w.heap.size w w') : w'.ownsRow base e size v n xs := by
  obtain ⟨h1, h2⟩ := h
  refine ⟨h1, ?_⟩
  rcases h2 with h | ⟨g, cap, cur, a, b, c, d⟩
  · exact .inl h
  · exact .inr ⟨g, cap, cur, a, b, (hb.block g (Array.getElem?_eq_some_iff.1 c).1).trans c, d⟩
theorem info44 : ∃ i0, Tryz.prog.info? 44 = some i0 ∧ i0.zero = some .nilIface ∧ i0.size = 1 ∧ i0.bytes = 16 := ⟨Tryz.t44, by kernel_rfl, by kernel_rfl, by kernel_rfl, by kernel_rfl⟩
theorem keepM_app {w w3 : World} {base : Nat} {e : TypeId} {size : Nat} {v : Value} {k : Nat} {xs : List Value} (h : w.ownsRow base e size v k xs) (hg : w.grownBy w3 v.ownBlock) : KeepM 0 w w3 := by
  refine ⟨hg.size, fun c es k _ hc => ?_⟩
  refine (hg.block c (Array.getElem?_eq_some_iff.1 hc).1 ?_).trans hc
  intro hcv
  rcases h.2 with ⟨rfl, _⟩ | ⟨g, cap, cur, rfl, _, hgb, _⟩
  · cases hcv
  · cases hcv
    rw [hgb] at hc; cases hc
theorem isv_iface {w : World} {lo : Nat} {x : Value} (h : IsV w lo x) : ∃ T y, x = .iface T y := by
  obtain ⟨h, _⟩ := h
  cases h <;> exact ⟨_, _, rfl⟩
theorem isv_one {w : World} {lo : Nat} {x : Value} (h : IsV w lo x) : x.oneCell' = true := by
  obtain ⟨h, _⟩ := h
  cases h <;> rfl
theorem app175 {ops : Array Oper} {rest : List Oper} {o : Oper} {a : Act} {w : World} {Q : Exit → Act → World → Prop} (hgd : o.guard = none) (s xo : Operand)
    (ho : o.op = .call { callee := .builtin .append, args := #[s, xo], argTypes := #[175, 175] }) (base : Nat) (v : Value) (n : Nat) (xs : List Value) (hs : a.eval s = v) (hown : w.ownsRow base 44 1 v n xs)
    (blk : Nat) (x : Value) (hx : a.eval xo = .slice (some ⟨blk, 0, none⟩) 1 1) (hc : w.cell? ⟨blk, 0, none⟩ = some x) (h1 : x.oneCell' = true) (hn : n + 1 ≤ 8796093022080) (hbase : base ≤ w.heap.size)
    (h : ∀ v' w', w'.ownsRow base 44 1 v' (n + 1) (xs ++ [x]) → w.grownBy w' v.ownBlock → wpList Tryz.prog ops Q rest (a.put o.dst v') w') : wpList Tryz.prog ops Q (o :: rest) a w := by
  obtain ⟨i0, hi, hz0, hz1, hz2⟩ := info44
  refine wpList_append_own w hgd s xo 175 ho base 44 i0 .nilIface 1 16 u175S hi hz0 hz1 hz2 rfl (by decide) v n xs hs hown ⟨blk, 0, none⟩ 1 1 [x] hx rfl ?_ (by simpa using h1) (by unfold maxLen; omega) (by omega) hbase (fun v' w' h2 h3 _ => h v' w' h2 h3)
  intro j u hj
  match j, hj with
  | 0, hj => simp at hj; subst hj; simpa [Addr.add] using hc
  | j + 1, hj => simp at hj
set_option maxRecDepth 20000 in
set_option maxHeartbeats 1600000 in
theorem values_c (w0 : World) (B n c : Nat) (p : Option Addr) (el : Nat → Value) (g : Nat → Bool) (hrow : SixRow w0 B n p el) (hok : ∀ i, i < n → ValueOK w0 B (el i) (g i)) (w : World) (hw : Below B w0 w) (hB : B ≤ w.heap.size) :
    Calls Tryz.prog 50 #[.slice p n c] w (VsPost w n g) := by
  obtain ⟨hn, b, off, hp, hc⟩ := hrow
  go_enter Tryz.func50, Tryz.ntmps50
  go_wp2_with fail
  go_loopw [4, 11] (fun out i wr => OutRel w n g out i wr) (fun _ i _ => n - (intOf i).toNat)
  case atStart => exact ⟨0, [], by omega, rfl, by omega, ⟨rfl, .inl ⟨rfl, rfl⟩⟩, by simp, Below.refl _ _⟩
  case round =>
    obtain ⟨wo, rfl⟩ : ∃ wo : World, wo = wr := ⟨_, rfl⟩
    obtain ⟨k, xs, hkn, rfl, hgk, hout, hxs, hb⟩ := hrel
    by_cases hlt : k < n
    · obtain ⟨rfl, hbB⟩ := hp (by omega)
      obtain ⟨kd, nn, s1, t1, pk, nk, ck, pl, nl, cl, hv, h0, h1, h2, h3, h4, h5⟩ := hc k hlt
      have hoo := hok k hlt
      rw [hv] at hoo
      clear hok hc hp hv
      have tr : ∀ (o : Nat) (c : Value), w0.cell? ⟨b, o, none⟩ = some c → wo.cell? ⟨b, o, none⟩ = some c := fun o c h => (hb.cell (p := ⟨b, o, none⟩) (by show b < _; omega)).trans ((hw.cell (p := ⟨b, o, none⟩) hbB).trans h)
      have k0 := tr _ _ h0; have k1 := tr _ _ h1; have k2 := tr _ _ h2; have k3 := tr _ _ h3; have k4 := tr _ _ h4; have k5 := tr _ _ h5
      clear tr h0 h1 h2 h3 h4 h5
      go_wp2_with fail
      obtain ⟨W1, hW1⟩ : ∃ W1, wo.alloc (.cells #[.int .i64 kd, .int .i64 nn, .string s1, .string t1, .slice pk nk ck, .slice pl nl cl] 28) = W1 := ⟨_, rfl⟩
      rw [hW1]
      have b1 : Below wo.heap.size wo W1 := by rw [← hW1]; exact below_refl_alloc wo _
      have s1' : wo.heap.size < W1.heap.size := by rw [← hW1]; simp
      clear hW1
      have hbo := hb.size
      have hw1 : Below B w0 W1 := hw.trans ((hb.mono (by omega)).trans (b1.mono (by omega)))
      refine (hoo W1 hw1 (by omega)).mono ?_
      rintro e w2 ⟨x, rfl, hb2, hx⟩
      have hb12 : Below wo.heap.size wo w2 := b1.trans (hb2.mono (by omega))
      have hxs2 : ∀ x ∈ xs, IsV w2 w.heap.size x := fun x h => (hxs x h).below hb12
      have hout2 := ownsRow_below hout hb12
      have hbw2 : Below w.heap.size w w2 := hb.trans (hb12.mono (by omega))
      have hs2 : wo.heap.size < w2.heap.size := by have := hb2.size; omega
      clear hxs hout b1 hw1 k0 k1 k2 k3 k4 k5 hoo
      cases hg : g k with
      | false =>
        go_wp2
        go_ret2
        have hall := allB_false hlt hg
        exact ⟨.slice none 0 0, by rw [hall]; rfl, hbw2, fun h => (by rw [hall] at h; cases h), fun _ => rfl⟩
      | true =>
        rw [hg] at hx
        have hx' : IsV w2 w.heap.size x := (hx rfl).mono (by omega)
        clear hx
        obtain ⟨T, y, rfl⟩ := isv_iface hx'
        have hcn : (w2.alloc (.cells #[.iface T y] 44)).cell? ⟨w2.heap.size, 0, none⟩ = some (.iface T y) := blk1 (heap_alloc_new w2 _) 0
        go_wp2_with ((with_reducible show wpList _ _ _ ({ dst := _, op := Op.call { callee := Callee.builtin Builtin.append, args := _, argTypes := _ }, type := _, pos := _, after := _, guard := _ } :: _) _ _); refine app175 rfl _ _ rfl w.heap.size _ _ _ rfl (hout2.alloc _) _ (.iface T y) rfl hcn rfl (by omega) (by simp; omega) ?_)
        intro v' w3 hown' hg3
        have hk2 : KeepM 0 w2 w3 := (KeepM.below (below_refl_alloc w2 _)).trans (keepM_app (hout2.alloc _) hg3)
        have hb3 : Below w.heap.size w w3 := (hbw2.trans ((below_refl_alloc w2 _).mono (by omega))).grown hg3 (by simp; omega) (fun k e => (hout2.lt k e).1)
        have hxs3 : ∀ x ∈ xs ++ [.iface T y], IsV w3 w.heap.size x := by
          intro x hx
          rcases List.mem_append.1 hx with h | h
          · exact (hxs2 x h).kept (hk2.mono (by omega))
          · obtain rfl := List.mem_singleton.1 h
            exact hx'.kept (hk2.mono (by omega))
        clear hg3 hk2 hxs2 hx' hcn hout2
        go_wp2
        go_roundw
        case rel =>
          refine ⟨k + 1, _, by omega, by go_num, fun j hj => ?_, hown', hxs3, hb3⟩
          by_cases hjk : j = k
          · rw [hjk]; exact hg
          · exact hgk j (by omega)
        case measure => simp [intOf]; omega
    · obtain rfl : k = n := by omega
      go_wp2
      go_ret2
      have hall := allB_true.2 hgk
      exact ⟨u4, by rw [hall]; rfl, hb, fun _ => ⟨xs, hout, hxs⟩, fun h => (by rw [hall] at h; cases h)⟩
end Go.Proofs.Exp
namespace Go.Proofs.Exp
open Go.RowKit
set_option linter.unusedVariables false
attribute [local go_sem] Oper.semAt_some
def RcPost (w : World) (ok : Bool) (e : Ending) (w' : World) : Prop :=
  ∃ m h, e = .returned (.tuple #[.agg #[.map m, .int .u64 h], .bool ok]) ∧ Below w.heap.size w w' ∧ (ok = true → IsV w' w.heap.size (.iface 52 (.agg #[.map m, .int .u64 h])))
theorem results_cell_tmp {P : Program} {fn : Func} {a u : Tmp} {t : TypeId} (h : fn.results = #[.cell a t, .tmp u]) (tmps : Array Value) (p : Addr) (hp : tmps.getD a undef = .pointer (some p)) (w : World) (v : Value) (hv : (loadVar t p).run P w = .ok v w) :
    (results fn tmps).run P w = .ok (.tuple #[v, tmps.getD u undef]) w := by
  have hp' : tmps[a]?.getD undef = .pointer (some p) := by simpa using hp
  simp only [results, h]
  simp [asAddr, hp', hv, Sem.run_bind, Result.andThen_ok, Sem.run_pure]
theorem run_makeMap_0 (t kt et : TypeId) (ht : Tryz.prog.underlying t = some (.map kt et)) (w : World) : (Instr.makeMap t none).run Tryz.prog w = .ok (.map (some w.heap.size)) (w.alloc (.map #[] 0)) := by
  simp only [Instr.makeMap, Sem.run_bind, run_underlying ht, Result.andThen_ok, Sem.run_pure, newObj, Sem.run]
  rfl
def RecRel (w : World) (nk : Nat) (g : Nat → Bool) (i : Value) (wr : World) : Prop :=
  ∃ k : Nat, k ≤ nk ∧ i = .int .i64 k ∧ (∀ j, j < k → g j = true) ∧ OwnM wr (w.heap.size + 1) (IsV wr (w.heap.size + 2)) k ∧ Below w.heap.size w wr ∧
    wr.heap[w.heap.size]? = some (.cells #[.map none, .int .u64 0] 52 (0, 0)) ∧ w.heap.size + 2 ≤ wr.heap.size
theorem keepM_setCell {w : World} {b o : Nat} {c : Array Value} {e : TypeId} {f : Nat × Nat} (h : w.heap[b]? = some (.cells c e f)) (v : Value) : KeepM 0 w (w.setCell ⟨b, o, none⟩ v) := by
  refine ⟨by simp, fun d es k _ hd => ?_⟩
  rw [Below.heap_setCell _ _ _ _ ?_]
  · exact hd
  · rintro rfl; rw [h] at hd; cases hd
theorem rc_end {w w2 : World} {m0 : Value} {h0 : Value} (r : w2.heap[w.heap.size]? = some (.cells #[m0, h0] 52 (0, 0))) (hb : Below w.heap.size w w2) (m : Option Nat) (h : Int) (ok : Bool) (hI : ok = true → IsV w2 w.heap.size (.iface 52 (.agg #[.map m, .int .u64 h])))
    (a : Act) (ha : a.tmps.getD 4 undef = .pointer (some ⟨w.heap.size, 0, none⟩)) (h5 : a.tmps.getD 5 undef = .bool ok) (had : a.defers = []) :
    bodyPost Tryz.prog Tryz.f12 (RcPost w ok) Exit.ret a ((w2.setCell ⟨w.heap.size, 0, none⟩ (.map m)).setCell ⟨w.heap.size, 1, none⟩ (.int .u64 h)) := by
  have hh1 := setCell_here (o := 0) r (.map m)
  have hh := setCell_here (o := 1) hh1 (.int .u64 h)
  have hb2 : Below w.heap.size w ((w2.setCell ⟨w.heap.size, 0, none⟩ (.map m)).setCell ⟨w.heap.size, 1, none⟩ (.int .u64 h)) := (hb.setCell (Nat.le_refl _) _).setCell (Nat.le_refl _) _
  have hk := (keepM_setCell (o := 0) r (.map m)).trans (keepM_setCell (o := 1) hh1 (.int .u64 h))
  refine bodyPost_ret (results_cell_tmp (a := 4) (t := 52) (u := 5) (by kernel_rfl) _ ⟨w.heap.size, 0, none⟩ ha _ _ (load2 _ _ _ _ (by kernel_rfl) (by kernel_rfl) (blk1 hh 0) (blk1 hh 1))) had ?_
  rw [h5]
  exact ⟨m, h, rfl, hb2, fun hok => (hI hok).kept (hk.mono (Nat.zero_le _))⟩
set_option maxRecDepth 20000 in
set_option maxHeartbeats 1600000 in
theorem record_c (w0 : World) (B nk ck nl cl : Nat) (pk pl : Option Addr) (ks : Nat → ByteArray) (el : Nat → Value) (g : Nat → Bool) (hkr : TextRow w0 B nk pk ks) (hrow : SixRow w0 B nl pl el) (hok : ∀ i, i < nl → ValueOK w0 B (el i) (g i)) (w : World) (hw : Below B w0 w) (hB : B ≤ w.heap.size) :
    Calls Tryz.prog 12 #[.slice pk nk ck, .slice pl nl cl] w (RcPost w (decide (nk = nl) && allB nl g)) := by
  obtain ⟨hn, b, off, hp, hc⟩ := hrow
  obtain ⟨hnk, bk, ok, hpk, hck⟩ := hkr
  go_enter Tryz.func12, Tryz.ntmps12
  have hmm := run_makeMap_0 49 64 44 u49T
  by_cases hne' : nk = nl
  rotate_left
  · have hx : ((nk : Int) != (nl : Int)) = true := by simp; omega
    go_wp2
    try simp only [Exit.inBlock, Exit.then]
    refine bodyPost_ret (results_cell_tmp (a := 4) (t := 52) (u := 5) (by kernel_rfl) _ ⟨w.heap.size, 0, none⟩ rfl _ _ (load2 _ _ _ _ (by kernel_rfl) (by kernel_rfl) (blk1 (heap_alloc_new _ _) 0) (blk1 (heap_alloc_new _ _) 1))) rfl ?_
    have e : (decide (nk = nl) && allB nl g) = false := by simp [hne']
    rw [e]
    exact ⟨none, 0, rfl, below_refl_alloc w _, fun h => by cases h⟩
  · subst hne'
    go_wp2_with fail
    obtain ⟨W1, hW1⟩ : ∃ W1, (w.alloc (.cells #[.map none, .int .u64 0] 52)).alloc (.map #[] 0) = W1 := ⟨_, rfl⟩
    rw [hW1]
    have b1 : Below w.heap.size w W1 := by rw [← hW1]; exact (below_refl_alloc w _).alloc (by simp) _
    have s1 : W1.heap.size = w.heap.size + 2 := by rw [← hW1]; simp
    have r1 : W1.heap[w.heap.size]? = some (.cells #[.map none, .int .u64 0] 52 (0, 0)) := by rw [← hW1, Below.heap_alloc _ _ _ (by simp)]; exact heap_alloc_new w _
    have m1 : OwnM W1 (w.heap.size + 1) (IsV W1 (w.heap.size + 2)) 0 := by
      have := OwnM.made (w.alloc (.cells #[.map none, .int .u64 0] 52)) (IsV W1 (w.heap.size + 2))
      rw [hW1] at this; simpa using this
    clear hW1
    go_loopw [20] (fun i wr => RecRel w nk g i wr) (fun i _ => nk - (intOf i).toNat)
    case atStart => exact ⟨0, by omega, rfl, by omega, m1, b1, r1, by omega⟩
    case round =>
      clear b1 s1 r1 m1 hmm
      obtain ⟨wo, rfl⟩ : ∃ wo : World, wo = wr := ⟨_, rfl⟩
      obtain ⟨k, hkn, rfl, hgk, hm, hb, hr, hs⟩ := hrel
      by_cases hlt : k < nk
      · obtain ⟨rfl, hbB⟩ := hp (by omega)
        obtain ⟨rfl, hbkB⟩ := hpk (by omega)
        obtain ⟨kd, nn, s1, t1, pk, nk', ck', pl, nl, cl', hv, h0, h1, h2, h3, h4, h5⟩ := hc k hlt
        obtain ⟨hkk, hks⟩ := hck k hlt
        have hoo := hok k hlt
        rw [hv] at hoo
        clear hok hc hp hpk hck hv
        have tr : ∀ (o : Nat) (c : Value), w0.cell? ⟨b, o, none⟩ = some c → wo.cell? ⟨b, o, none⟩ = some c := fun o c h => (hb.cell (p := ⟨b, o, none⟩) (by show b < _; omega)).trans ((hw.cell (p := ⟨b, o, none⟩) hbB).trans h)
        have k0 := tr _ _ h0; have k1 := tr _ _ h1; have k2 := tr _ _ h2; have k3 := tr _ _ h3; have k4 := tr _ _ h4; have k5 := tr _ _ h5
        have kk : wo.cell? ⟨bk, ok + k, none⟩ = some (.string (ks k)) := (hb.cell (p := ⟨bk, ok + k, none⟩) (by show bk < _; omega)).trans ((hw.cell (p := ⟨bk, ok + k, none⟩) hbkB).trans hkk)
        clear tr h0 h1 h2 h3 h4 h5 hkk
        generalize ks k = key at *
        go_wp2_with fail
        have hbo := hb.size
        refine (hoo wo (hw.trans (hb.mono (by omega))) (by omega)).mono ?_
        rintro e w2 ⟨x, rfl, hb2, hx⟩
        have hbw2 : Below w.heap.size w w2 := hb.trans (hb2.mono (by omega))
        have hm2 : OwnM w2 (w.heap.size + 1) (IsV w2 (w.heap.size + 2)) k := (hm.below hb2 (by omega)).weaken (Nat.le_refl _) (fun v h => h.below hb2)
        have hr2 := (hb2.block _ (by omega)).trans hr
        have hs2 : w.heap.size + 2 ≤ w2.heap.size := by have := hb2.size; omega
        clear hm hr hb2 k0 k1 k2 k3 k4 k5 kk hoo
        cases hg : g k with
        | false =>
          have c0 := blk1 hr2 0
          have c1 := blk1 hr2 1
          have f0 : w2.frozen? ⟨w.heap.size, 0, none⟩ = false := by simp [World.frozen?, hr2]
          have f1 : w2.frozen? ⟨w.heap.size, 1, none⟩ = false := by simp [World.frozen?, hr2]
          go_wp2
          have hall := allB_false hlt hg
          rw [hall]
          try simp only [Exit.inBlock, Exit.then]
          exact rc_end hr2 hbw2 none 0 false (fun h => by cases h) _ rfl rfl rfl
        | true =>
          rw [hg] at hx
          have hx' : IsV w2 (w.heap.size + 2) x := (hx rfl).mono (by omega)
          clear hx
          go_wp2_with (at_mapUpdate; refine wpList_updo rfl _ _ _ rfl (w.heap.size + 1) rfl key x rfl rfl _ k (by omega) hm2 hks hx' ?_)
          intro w3 hm3 hs3 hoth hcell hfr hbl
          have hk3 : KeepM (w.heap.size + 2) w2 w3 := ⟨by omega, fun c es kk hc h => (hoth c (by omega)).trans h⟩
          have hm3' := hm3.weaken (Nat.le_refl _) (fun v h => IsV.kept h hk3)
          have hb3 : Below w.heap.size w w3 := hbw2.trans (hbl _ (by omega))
          have hr3 := (hoth w.heap.size (by omega)).trans hr2
          clear hoth hcell hfr hbl hm3 hm2
          go_wp2
          go_roundw
          case rel =>
            refine ⟨k + 1, by omega, by go_num, fun j hj => ?_, hm3', hb3, hr3, by omega⟩
            by_cases hjk : j = k
            · rw [hjk]; exact hg
            · exact hgk j (by omega)
          case measure => simp [intOf]; omega
      · obtain rfl : k = nk := by omega
        obtain ⟨es, clock, hes, hesn, hev⟩ := id hm.2
        have hmV : OwnM wo (w.heap.size + 1) (IsVal wo wo.heap.size) k := hm.weaken (Nat.le_refl _) (fun v h => h.1)
        go_wp2_with fail
        refine (newrec _ k _ es clock hes hmV (by omega)).mono ?_
        rintro e w2 ⟨m, h, rfl, hb2, hm1, hm2, hm3⟩
        have hr2 := (hb2.block _ (by omega)).trans hr
        have hbw2 : Below w.heap.size w w2 := hb.trans (hb2.mono (by omega))
        have hMH : MapHas w2 m KS (IsV w2 w.heap.size) 140737488351232 := ⟨es, clock, hm3, by omega, fun e he => ⟨(hev e he).1, (hev e he).2.1, ((hev e he).2.2.below hb2).mono (by omega)⟩⟩
        have c0 := blk1 hr2 0
        have c1 := blk1 hr2 1
        have f0 : w2.frozen? ⟨w.heap.size, 0, none⟩ = false := by simp [World.frozen?, hr2]
        have f1 : w2.frozen? ⟨w.heap.size, 1, none⟩ = false := by simp [World.frozen?, hr2]
        clear hm hmV hev hes hm3 hb2
        go_wp2
        have hall : allB k g = true := allB_true.2 hgk
        rw [hall]
        try simp only [Exit.inBlock, Exit.then]
        exact rc_end hr2 hbw2 (some m) h true (fun _ => IsV.ofRec (by omega) hMH (fun v h => h)) _ rfl rfl rfl
end Go.Proofs.Exp
