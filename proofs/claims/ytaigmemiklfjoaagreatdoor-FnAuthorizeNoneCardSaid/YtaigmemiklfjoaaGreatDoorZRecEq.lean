/- Part of the proof of FnAuthorizeNone: without policies no request is allowed; for every world that comes in. -/
import Derived.Test.YtaigmemiklfjoaaGreatDoorZSetEq
set_option linter.unusedSimpArgs false
set_option linter.unusedVariables false
set_option linter.unnecessarySimpa false
namespace Go.Proofs.Exp
open Go.RowKit
set_option linter.unusedVariables false
theorem wpList_skip {P : Program} {ops : Array Oper} {rest : List Oper} {o : Oper} {a : Act} {w : World} {Q : Exit → Act → World → Prop}
    (hg : Region.wanted o (yielded ops a.tmps) = false) (h : wpList P ops Q rest (a.put o.dst undef) w) : wpList P ops Q (o :: rest) a w := by
  unfold wpList
  rw [if_neg (by rw [hg]; decide)]
  exact h
/-- As 'wpList_inv', at an operation that stands behind a guard. -/
theorem wpList_inv_g {P : Program} {ops : Array Oper} {rest : List Oper} {o : Oper} {a : Act} {w : World} {Q : Exit → Act → World → Prop}
    (hw : Region.wanted o (yielded ops a.tmps) = true) (r : Operand) (name : String) (args : Array Operand) (ats : Array TypeId)
    (ho : o.op = .call { callee := .invoke r name, args := args, argTypes := ats })
    (v : Value) (hr : a.eval r = v) (vs : List Value) (hvs : (args.toList.map a.eval) = vs) (R : Value → World → Prop) (hI : Inv P name v vs w R)
    (h : ∀ y w', R y w' → wpList P ops Q rest (a.put o.dst y) w') : wpList P ops Q (o :: rest) a w := by
  have h1 : wpList P ops Q ({ o with guard := none } :: rest) a w := wpList_inv (o := { o with guard := none }) rfl r name args ats ho v hr vs hvs R hI h
  unfold wpList at h1 ⊢
  rw [if_pos (by rfl)] at h1
  rw [if_pos hw]
  exact h1

theorem u49T : Tryz.prog.underlying 49 = some (.map 64 44) := by kernel_rfl
theorem ba_beq (a b : ByteArray) : (a == b) = true ↔ a = b := by
  rw [beq_toListBytes, beq_iff_eq, ByteArray.toList_eq, ByteArray.toList_eq]
  obtain ⟨⟨x⟩⟩ := a
  obtain ⟨⟨y⟩⟩ := b
  simp
theorem pk_str (k k' : ByteArray) : ∃ c, Instr.sameNow .string (.string k) (.string k') = some c ∧ (c = true ↔ (Value.string k') = .string k) := by
  refine ⟨k == k', rfl, ?_⟩
  rw [ba_beq, Value.string.injEq]
  exact ⟨fun h => h.symm, fun h => h.symm⟩
theorem pk_KS (k : ByteArray) (k' : Value) (h : KS k') : ∃ c, Instr.sameNow .string (.string k) k' = some c ∧ (c = true ↔ k' = .string k) := by
  obtain ⟨s, rfl, _⟩ := h
  exact pk_str k s
set_option maxRecDepth 20000 in
set_option maxHeartbeats 800000 in
theorem receq_no (m : Option Nat) (h : Int) (t : TypeId) (v : Value) (ht : ¬ t = 52) (w : World) :
    Calls Tryz.prog 262 #[.agg #[.map m, .int .u64 h], .iface t v] w (EqPost w) := by
  have hta := tn_rec t v ht
  go_enter Tryz.func262, Tryz.ntmps262
  go_wp2
  go_ret
  exact ⟨_, rfl, (below_refl_alloc w _).alloc (by simp) _⟩

/-- A look-up in a map that may be nil: an element, or none. -/
theorem wpList_lookS {P : Program} {ops : Array Oper} {rest : List Oper} {o : Oper} {a : Act} {w : World} {Q : Exit → Act → World → Prop}
    (hgd : o.guard = none) (t : TypeId) (m k : Operand) (ok : Bool) (ho : o.op = .lookup t m k ok)
    (kt et : TypeId) (kd : TypeDesc) (ht : P.underlying t = some (.map kt et)) (hkt : P.underlying kt = some kd) (hd : kd = .string ∨ ∃ k, kd = .int k)
    (z : Value) (hz : ∀ w, (zeroValue et).run P w = .ok z w) (mm : Option Nat) (hm : a.eval m = .map mm) (kv : Value) (hkv : a.eval k = kv)
    (B : Nat) (K V : Value → Prop) (hS : SetM w B K V mm) (hpk : ∀ k', K k' → ∃ c, Instr.sameNow kd kv k' = some c ∧ (c = true ↔ k' = kv))
    (h1 : ∀ v, V v → wpList P ops Q rest (a.put o.dst (if ok then .tuple #[v, .bool true] else v)) w)
    (h2 : wpList P ops Q rest (a.put o.dst (if ok then .tuple #[z, .bool false] else z)) w) : wpList P ops Q (o :: rest) a w := by
  rcases hS with rfl | ⟨b, rfl, hb, es, clock, he, hn, hkv2⟩
  · exact wpList_look_nil hgd t m k ok ho kt et kd ht hkt hd z hz hm h2
  · exact wpList_lookm hgd t m k ok ho kt et kd ht hkt hd z hz b hm kv hkv es clock he (fun e hee => hpk _ (hkv2 e hee).2.1) (fun e hee _ => h1 _ (hkv2 e hee).2.2) (fun _ => h2)
theorem wpList_lenm_g {P : Program} {ops : Array Oper} {rest : List Oper} {o : Oper} {a : Act} {w : World} {Q : Exit → Act → World → Prop}
    (hw : Region.wanted o (yielded ops a.tmps) = true) (x : Operand) (t : TypeId) (ho : o.op = .call { callee := .builtin .len, args := #[x], argTypes := #[t] })
    (kt et : TypeId) (ht : P.underlying t = some (.map kt et))
    (m : Option Nat) (hx : a.eval x = .map m) (n : Nat) (hl : MapLen w m n)
    (h : wpList P ops Q rest (a.put o.dst (.int .i64 n)) w) : wpList P ops Q (o :: rest) a w := by
  have h1 : wpList P ops Q ({ o with guard := none } :: rest) a w := wpList_lenm (o := { o with guard := none }) rfl x t ho kt et ht m hx n hl h
  unfold wpList at h1 ⊢
  rw [if_pos (by rfl)] at h1
  rw [if_pos hw]
  exact h1
set_option maxRecDepth 20000 in
set_option maxHeartbeats 2000000 in
theorem receq_none (w0 : World) (B : Nat)  (m2 : Option Nat) (h h2 : Int) (w : World) (hw : Below B w0 w) (hBw : B ≤ w.heap.size)
    (hm : SetM w0 B KS (VE w0 B) none) (hm2 : SetM w B KS (IsVal w B) m2) :
    Calls Tryz.prog 262 #[.agg #[.map none, .int .u64 h], .iface 52 (.agg #[.map m2, .int .u64 h2])] w (EqPost w) := by
  have hta := ta_rec (.agg #[.map m2, .int .u64 h2])
  obtain ⟨n1, hn1, hl1⟩ := hm.len
  obtain ⟨n2, hn2, hl2⟩ := hm2.len
  have L1 : ∀ o1 o2, MapLen ((w.alloc o1).alloc o2) none n1 := fun o1 o2 => hl1 _ (hw.trans (((Below.refl B w).alloc hBw _).alloc (by simp; omega) _))
  have L2 : ∀ o1 o2, MapLen ((w.alloc o1).alloc o2) m2 n2 := fun o1 o2 => hl2 _ (((Below.refl B w).alloc hBw _).alloc (by simp; omega) _)
  clear hl1 hl2
  go_enter Tryz.func262, Tryz.ntmps262
  go_wp2_with (first
    | ((with_reducible show wpList _ _ _ ({ dst := _, op := Op.call { callee := Callee.builtin Builtin.len, args := #[Operand.tmp 20], argTypes := #[49] }, type := _, pos := _, after := _, guard := _ } :: _) _ _); refine wpList_lenm_g rfl _ 49 rfl 64 44 u49T none rfl n1 (L1 _ _) ?_)
    | ((with_reducible show wpList _ _ _ ({ dst := _, op := Op.call { callee := Callee.builtin Builtin.len, args := #[Operand.tmp 23], argTypes := #[49] }, type := _, pos := _, after := _, guard := _ } :: _) _ _); refine wpList_lenm_g rfl _ 49 rfl 64 44 u49T m2 rfl n2 (L2 _ _) ?_)
    | ((with_reducible show wpList _ _ _ ({ dst := _, op := Op.range _ _, type := _, pos := _, after := _, guard := _ } :: _) _ _); refine wpList_range_nil rfl 49 _ rfl 64 44 u49T rfl ?_))
  · go_ret
    exact ⟨_, rfl, (below_refl_alloc w _).alloc (by simp) _⟩
  · go_frame
    go_loopw [37] (fun _ wr => wr = ((w.alloc (.cells #[.map none, .int .u64 h] 52)).alloc (.cells #[.map m2, .int .u64 h2] 52)).alloc (.mapIter none 0 #[] 0)) (fun _ _ => 0)
    case atStart => rfl
    case round =>
      subst hrel
      go_wp2_with ((with_reducible show wpList _ _ _ ({ dst := _, op := Op.next _ _, type := _, pos := _, after := _, guard := _ } :: _) _ _); refine wpList_next_nil rfl _ rfl _ rfl 0 0 #[] (heap_alloc_new _ _) ?_)
      go_ret
      exact ⟨_, rfl, ((below_refl_alloc w _).alloc (by simp) _).alloc (by simp; omega) _⟩
  · go_ret
    exact ⟨_, rfl, (below_refl_alloc w _).alloc (by simp) _⟩
set_option maxRecDepth 20000 in
set_option maxHeartbeats 2000000 in
theorem receq_some (w0 : World) (B : Nat) (b : Nat) (m2 : Option Nat) (h h2 : Int) (w : World) (hw : Below B w0 w) (hBw : B ≤ w.heap.size)
    (hm : SetM w0 B KS (VE w0 B) (some b)) (hm2 : SetM w B KS (IsVal w B) m2) :
    Calls Tryz.prog 262 #[.agg #[.map (some b), .int .u64 h], .iface 52 (.agg #[.map m2, .int .u64 h2])] w (EqPost w) := by
  have hta := ta_rec (.agg #[.map m2, .int .u64 h2])
  obtain ⟨n1, hn1, hl1⟩ := hm.len
  obtain ⟨n2, hn2, hl2⟩ := hm2.len
  have L1 : ∀ o1 o2, MapLen ((w.alloc o1).alloc o2) (some b) n1 := fun o1 o2 => hl1 _ (hw.trans (((Below.refl B w).alloc hBw _).alloc (by simp; omega) _))
  have L2 : ∀ o1 o2, MapLen ((w.alloc o1).alloc o2) m2 n2 := fun o1 o2 => hl2 _ (((Below.refl B w).alloc hBw _).alloc (by simp; omega) _)
  clear hl1 hl2
  go_enter Tryz.func262, Tryz.ntmps262
  go_wp2_with (first
    | ((with_reducible show wpList _ _ _ ({ dst := _, op := Op.call { callee := Callee.builtin Builtin.len, args := #[Operand.tmp 20], argTypes := #[49] }, type := _, pos := _, after := _, guard := _ } :: _) _ _); refine wpList_lenm_g rfl _ 49 rfl 64 44 u49T (some b) rfl n1 (L1 _ _) ?_)
    | ((with_reducible show wpList _ _ _ ({ dst := _, op := Op.call { callee := Callee.builtin Builtin.len, args := #[Operand.tmp 23], argTypes := #[49] }, type := _, pos := _, after := _, guard := _ } :: _) _ _); refine wpList_lenm_g rfl _ 49 rfl 64 44 u49T m2 rfl n2 (L2 _ _) ?_)
    | ((with_reducible show wpList _ _ _ ({ dst := _, op := Op.range _ _, type := _, pos := _, after := _, guard := _ } :: _) _ _); refine wpList_rangem rfl 49 _ rfl 64 44 u49T b rfl KS (VE w0 B) 140737488351232 ?hmap ?_))
  case hmap =>
    obtain ⟨b', hb', h1, h2⟩ := hm.resolve_left (by simp)
    obtain rfl : b = b' := by simpa using hb'
    exact h2.below (hw.trans (((Below.refl B w).alloc hBw _).alloc (by simp; omega) _)) h1
  · go_ret
    exact ⟨_, rfl, (below_refl_alloc w _).alloc (by simp) _⟩
  · intro w1 hit hsz hb1
    have hbB : b < B := by
      obtain ⟨b', hb', h1, h2⟩ := hm.resolve_left (by simp)
      obtain rfl : b = b' := by simpa using hb'
      exact h1
    have q0 : w1.cell? ⟨w.heap.size + 1, 0, none⟩ = some (.map m2) := cell_below hb1 (by simp) (by go_simp)
    have q1 : w1.cell? ⟨w.heap.size + 1, 1, none⟩ = some (.int .u64 h2) := cell_below hb1 (by simp) (by go_simp)
    have hW : Below w.heap.size w w1 := ((below_refl_alloc w _).alloc (by simp) _).trans (hb1.mono (by omega))
    clear hb1 L1 L2
    go_wp2_with fail
    go_loopw [37] (fun _ wr => ∃ s, Iter wr (w.heap.size + 1 + 1) b KS (VE w0 B) s ∧ Below (w.heap.size + 1 + 1) w1 wr) (fun _ wr => itLeft wr (w.heap.size + 1 + 1) b)
    case atStart => exact ⟨_, hit, Below.refl _ _⟩
    case round =>
      obtain ⟨s, hit2, hwr⟩ := hrel
      have hsz2 := hwr.size
      go_wp2_with ((with_reducible show wpList _ _ _ ({ dst := _, op := Op.next _ _, type := _, pos := _, after := _, guard := _ } :: _) _ _); refine wpList_nextm rfl _ rfl _ b rfl KS _ s hit2 ?_ ?_)
      · go_wp2
        go_ret
        exact ⟨_, rfl, hW.trans (hwr.mono (by omega))⟩
      · intro kv vv w2 hk hv hit3 hlt hs2 hoth hbl
        have hw2 : Below (w.heap.size + 1 + 1) w1 w2 := hwr.trans (hbl _ (Nat.le_refl _))
        have r0 := cell_below hw2 (by simp) q0
        have r1 := cell_below hw2 (by simp) q1
        go_wp2_with ((with_reducible show wpList _ _ _ ({ dst := _, op := Op.entry _, type := _, pos := _, after := _, guard := _ } :: _) _ _); refine wpList_entrym rfl _ rfl _ b rfl KS _ hit3 ?_)
        intro kv2 vv2 hk2 hv2
        have hww2 : Below B w w2 := (hW.mono hBw).trans (hw2.mono (by omega))
        have hm3 : SetM w2 B KS (IsVal w2 B) m2 := hm2.kept hww2 (Nat.le_refl _) (fun v hv => hv.kept hww2 (Nat.le_refl _))
        obtain ⟨ks, rfl, hks⟩ := hk2
        go_wp2_with (at_lookup; refine wpList_lookS rfl 49 _ _ true rfl 64 44 .string u49T u64T (.inl rfl) .nilIface z44 m2 rfl (.string ks) rfl B KS _ hm3 (pk_KS ks) ?_ ?_)
        · intro ev hev
          have hEq := hv2.2 w2 ev (hw.trans hww2) (by omega) hev
          have HE := Hid.out (p := _) hEq
          clear hEq
          go_wp2_with ((with_reducible show wpList _ _ _ ({ dst := _, op := Op.call { callee := Callee.invoke _ _, args := _, argTypes := _ }, type := _, pos := _, after := _, guard := _ } :: _) _ _); refine wpList_inv_g rfl _ "Equal" _ _ rfl vv2 rfl [ev] rfl _ HE ?_)
          rintro y w3 ⟨bb, rfl, hb3⟩
          have hw3 : Below (w.heap.size + 1 + 1) w1 w3 := hw2.trans (hb3.mono (by omega))
          obtain ⟨hit4, hle⟩ := hit3.kept (hb3.block _ (by omega)) (hb3.block _ (by omega))
          clear HE
          cases bb with
          | true =>
            go_wp2
            go_roundw
            case rel => exact ⟨_, hit4, hw3⟩
            case measure => rw [hle]; exact hlt
          | false =>
            go_wp2
            go_ret
            exact ⟨_, rfl, hW.trans (hw3.mono (by omega))⟩
        · go_wp2
          go_ret
          exact ⟨_, rfl, hW.trans (hw2.mono (by omega))⟩
  · go_ret
    exact ⟨_, rfl, (below_refl_alloc w _).alloc (by simp) _⟩
end Go.Proofs.Exp
