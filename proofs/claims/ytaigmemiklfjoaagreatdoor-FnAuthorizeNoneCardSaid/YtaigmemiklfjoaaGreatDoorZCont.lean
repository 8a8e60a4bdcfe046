/- Part of the proof of FnAuthorizeNone: without policies no request is allowed; for every world that comes in. -/
import Derived.Test.YtaigmemiklfjoaaGreatDoorZVals
set_option linter.unusedSimpArgs false
set_option linter.unusedVariables false
set_option linter.unnecessarySimpa false
namespace Go.Proofs.Exp
open Go.RowKit
set_option linter.unusedVariables false
theorem u178T : Tryz.prog.underlying 178 = some (.map 50 44) := by kernel_rfl
theorem u50T : Tryz.prog.underlying 50 = some (.int .u64) := by kernel_rfl
theorem z44 (w : World) : (zeroValue 44).run Tryz.prog w = .ok .nilIface w := by kernel_rfl
theorem pk_u64 (k k' : Int) : ∃ c, Instr.sameNow (.int .u64) (.int .u64 k) (.int .u64 k') = some c ∧ (c = true ↔ (Value.int .u64 k') = .int .u64 k) := by
  refine ⟨k == k', rfl, ?_⟩
  simp
  exact ⟨fun h => h.symm, fun h => h.symm⟩
set_option maxRecDepth 10000 in
set_option maxHeartbeats 800000 in
theorem contains_some (w0 : World) (B : Nat) (v : Value) (hash : ∀ w1, Inv Tryz.prog HK v [] w1 (HashR w1)) (heq : EqOK w0 B v) (b : Nat) (es : Array MapEntry) (clock : Nat) (h : Int) (w : World)
    (hw : Below B w0 w) (hBw : B ≤ w.heap.size) (hB : b < B) (hb : w.heap[b]? = some (.map es clock)) (hn : es.size ≤ 140737488351232)
    (hk : ∀ e ∈ es.toList, e.born < clock ∧ ∃ k : Int, e.key = .int .u64 k) (hv : ∀ e ∈ es.toList, IsVal w B e.val) :
    Calls Tryz.prog 303 #[.agg #[.map (some b), .int .u64 h], v] w (EqPost w) := by
  go_enter Tryz.func303, Tryz.ntmps303
  go_wp2_with ((with_reducible show wpList _ _ _ ({ dst := _, op := Op.call { callee := Callee.invoke _ _, args := _, argTypes := _ }, type := _, pos := _, after := _, guard := _ } :: _) _ _); refine wpList_inv rfl _ HK _ _ rfl v rfl [] rfl _ (hash _) ?_)
  rintro y w1 ⟨x, rfl, hb1⟩
  have q0 : w1.cell? ⟨w.heap.size, 0, none⟩ = some (.map (some b)) := cell_below hb1 (by simp) (by go_simp)
  have q1 : w1.cell? ⟨w.heap.size, 1, none⟩ = some (.int .u64 h) := cell_below hb1 (by simp) (by go_simp)
  have hbw : b < w.heap.size := by omega
  have qb : w1.heap[b]? = some (.map es clock) := (hb1.block b (by simp; omega)).trans ((Below.heap_alloc w _ b hbw).trans hb)
  have hW : Below w.heap.size w w1 := (below_refl_alloc w _).trans (hb1.mono (by simp))
  have hsz : w.heap.size + 1 ≤ w1.heap.size := by have := hb1.size; simpa using this
  clear hb1
  go_wp2
  go_loopw [5] (fun x wr => ∃ y : Int, x = .int .u64 y ∧ Probe es y ∧ Below (w.heap.size + 1) w1 wr) (fun x _ => dist (keyInts es) (es.size + 2) (intOf x))
  case atStart => exact ⟨x, rfl, Probe.start es (by omega) x, Below.refl _ _⟩
  case round =>
    obtain ⟨y, rfl, hpr, hwr⟩ := hrel
    have r0 := cell_below hwr (by simp) q0
    have r1 := cell_below hwr (by simp) q1
    have rb : wr.heap[b]? = some (.map es clock) := (hwr.block b (by omega)).trans qb
    go_wp2_with (at_lookup; refine wpList_lookm rfl 178 _ _ true rfl 50 44 (.int .u64) u178T u50T (.inr ⟨_, rfl⟩) .nilIface z44 b rfl (.int .u64 y) rfl es clock rb (fun e he => by obtain ⟨k, hk'⟩ := (hk e he).2; rw [hk']; exact pk_u64 y k) ?_ ?_)
    · intro e he hek
      have hev := hv e (by simpa using he)
      have hEq := heq wr e.val (hw.trans ((hW.mono hBw).trans (hwr.mono (by omega)))) (by have := hwr.size; omega) (hev.kept ((hW.mono hBw).trans (hwr.mono (by omega))) (Nat.le_refl _))
      have hnx := hpr.next (mem_keyInts (es := es) (e := e) (by simpa using he) hek)
      have HE := Hid.out (p := _) hEq
      clear hEq
      generalize e.val = ev at *
      go_wp2_with ((with_reducible show wpList _ _ _ ({ dst := _, op := Op.call { callee := Callee.invoke _ _, args := _, argTypes := _ }, type := _, pos := _, after := _, guard := _ } :: _) _ _); refine wpList_inv rfl _ "Equal" _ _ rfl v rfl [ev] rfl _ HE ?_)
      rintro y1 w2 ⟨bb, rfl, hb2⟩
      have hW2 : Below (w.heap.size + 1) w1 w2 := hwr.trans (hb2.mono (by have := hwr.size; omega))
      have hup : up64 y = IntKind.u64.wrap (y + 1) := rfl
      have HU := Hid.out (p := _) hup
      clear hb2 HE hup HU rb r0 r1 q0 q1 qb
      cases bb with
      | true =>
        go_wp2
        go_ret
        exact ⟨_, rfl, hW.trans (hW2.mono (by omega))⟩
      | false =>
        go_wp2
        go_roundw
        case rel => exact ⟨up64 y, rfl, hnx.1, hW2⟩
        case measure => exact hnx.2
    · intro hno
      go_wp2
      go_ret
      exact ⟨_, rfl, hW.trans (hwr.mono (by omega))⟩
end Go.Proofs.Exp
