/- Part of the proof of FnAuthorizeNone: without policies no request is allowed; for every world that comes in. -/
import Derived.Test.YtaigmemiklfjoaaGreatDoorZHash
set_option linter.unusedSimpArgs false
set_option linter.unusedVariables false
set_option linter.unnecessarySimpa false
namespace Go.Proofs.Exp
open Go.RowKit
set_option linter.unusedVariables false
theorem ta_yes {P : Program} {T : TypeId} {d : TypeDesc} (hu : P.underlying T = some d) (hd : (∃ ms, d = .interface ms) → False) (xT : TypeId) (v : Value) (w : World) :
    (Instr.typeAssert (.iface T v) xT T true).run P w = .ok (.tuple #[v, .bool true]) w := by
  unfold Instr.typeAssert
  simp only [Sem.run_bind, run_underlying hu, Result.andThen_ok]
  cases d <;> first | exact (hd ⟨_, rfl⟩).elim | (simp only [if_true]; rfl)
theorem ta_no {P : Program} {T : TypeId} {d : TypeDesc} (hu : P.underlying T = some d) (hd : (∃ ms, d = .interface ms) → False) {z : Value} (hz : ∀ w, (zeroValue T).run P w = .ok z w)
    (xT t : TypeId) (v : Value) (ht : ¬ t = T) (w : World) :
    (Instr.typeAssert (.iface t v) xT T true).run P w = .ok (.tuple #[z, .bool false]) w := by
  unfold Instr.typeAssert
  simp only [Sem.run_bind, run_underlying hu, Result.andThen_ok]
  cases d <;> first | exact (hd ⟨_, rfl⟩).elim | (simp only [ht, if_false, if_true, Sem.run_bind, hz, Result.andThen_ok]; rfl)
end Go.Proofs.Exp
namespace Go.Proofs.Exp
open Go.RowKit
set_option linter.unusedVariables false
def EqPost (w : World) (e : Ending) (w' : World) : Prop := ∃ b : Bool, e = .returned (.bool b) ∧ Below w.heap.size w w'

theorem ta_bool (v : Value) (w : World) : (Instr.typeAssert (.iface 110 v) 44 110 true).run Tryz.prog w = .ok (.tuple #[v, .bool true]) w := by kernel_rfl
theorem tn_bool (t : TypeId) (v : Value) (ht : ¬ t = 110) (w : World) : (Instr.typeAssert (.iface t v) 44 110 true).run Tryz.prog w = .ok (.tuple #[.bool false, .bool false]) w :=
  ta_no (d := (Tryz.prog.underlying 110).getD .invalid) (by kernel_rfl) (by rintro ⟨ms, h⟩; have h2 : (match (Tryz.prog.underlying 110).getD .invalid with | .interface _ => true | _ => false) = false := (by kernel_rfl); rw [h] at h2; cases h2) (fun w => by kernel_rfl) 44 t v ht w
set_option maxRecDepth 20000 in
set_option maxHeartbeats 400000 in
theorem eq_bool (x : Bool) (y : Bool) (w : World) : Calls Tryz.prog 286 #[.bool x, .iface 110 (.bool y)] w (EqPost w) := by
  have hta := ta_bool (.bool y)
  go_enter Tryz.func286, Tryz.ntmps286
  go_wp2
  all_goals go_ret
  all_goals exact ⟨_, rfl, (Below.refl _ _)⟩
set_option maxRecDepth 20000 in
set_option maxHeartbeats 400000 in
theorem eq_bool' (x : Bool) (t : TypeId) (v : Value) (ht : ¬ t = 110) (w : World) : Calls Tryz.prog 286 #[.bool x, .iface t v] w (EqPost w) := by
  have hta := tn_bool t v ht
  go_enter Tryz.func286, Tryz.ntmps286
  go_wp2
  all_goals go_ret
  all_goals exact ⟨_, rfl, (Below.refl _ _)⟩

theorem ta_long (v : Value) (w : World) : (Instr.typeAssert (.iface 174 v) 44 174 true).run Tryz.prog w = .ok (.tuple #[v, .bool true]) w := by kernel_rfl
theorem tn_long (t : TypeId) (v : Value) (ht : ¬ t = 174) (w : World) : (Instr.typeAssert (.iface t v) 44 174 true).run Tryz.prog w = .ok (.tuple #[.int .i64 0, .bool false]) w :=
  ta_no (d := (Tryz.prog.underlying 174).getD .invalid) (by kernel_rfl) (by rintro ⟨ms, h⟩; have h2 : (match (Tryz.prog.underlying 174).getD .invalid with | .interface _ => true | _ => false) = false := (by kernel_rfl); rw [h] at h2; cases h2) (fun w => by kernel_rfl) 44 t v ht w
set_option maxRecDepth 20000 in
set_option maxHeartbeats 400000 in
theorem eq_long (x : Int) (y : Int) (w : World) : Calls Tryz.prog 298 #[.int .i64 x, .iface 174 (.int .i64 y)] w (EqPost w) := by
  have hta := ta_long (.int .i64 y)
  go_enter Tryz.func298, Tryz.ntmps298
  go_wp2
  all_goals go_ret
  all_goals exact ⟨_, rfl, (Below.refl _ _)⟩
set_option maxRecDepth 20000 in
set_option maxHeartbeats 400000 in
theorem eq_long' (x : Int) (t : TypeId) (v : Value) (ht : ¬ t = 174) (w : World) : Calls Tryz.prog 298 #[.int .i64 x, .iface t v] w (EqPost w) := by
  have hta := tn_long t v ht
  go_enter Tryz.func298, Tryz.ntmps298
  go_wp2
  all_goals go_ret
  all_goals exact ⟨_, rfl, (Below.refl _ _)⟩

theorem ta_str (v : Value) (w : World) : (Instr.typeAssert (.iface 64 v) 44 64 true).run Tryz.prog w = .ok (.tuple #[v, .bool true]) w := by kernel_rfl
theorem tn_str (t : TypeId) (v : Value) (ht : ¬ t = 64) (w : World) : (Instr.typeAssert (.iface t v) 44 64 true).run Tryz.prog w = .ok (.tuple #[.string ByteArray.empty, .bool false]) w :=
  ta_no (d := (Tryz.prog.underlying 64).getD .invalid) (by kernel_rfl) (by rintro ⟨ms, h⟩; have h2 : (match (Tryz.prog.underlying 64).getD .invalid with | .interface _ => true | _ => false) = false := (by kernel_rfl); rw [h] at h2; cases h2) (fun w => by kernel_rfl) 44 t v ht w
set_option maxRecDepth 20000 in
set_option maxHeartbeats 400000 in
theorem eq_str (x : ByteArray) (y : ByteArray) (w : World) : Calls Tryz.prog 271 #[.string x, .iface 64 (.string y)] w (EqPost w) := by
  have hta := ta_str (.string y)
  go_enter Tryz.func271, Tryz.ntmps271
  go_wp2
  all_goals go_ret
  all_goals exact ⟨_, rfl, (Below.refl _ _)⟩
set_option maxRecDepth 20000 in
set_option maxHeartbeats 400000 in
theorem eq_str' (x : ByteArray) (t : TypeId) (v : Value) (ht : ¬ t = 64) (w : World) : Calls Tryz.prog 271 #[.string x, .iface t v] w (EqPost w) := by
  have hta := tn_str t v ht
  go_enter Tryz.func271, Tryz.ntmps271
  go_wp2
  all_goals go_ret
  all_goals exact ⟨_, rfl, (Below.refl _ _)⟩

theorem ta_uid (v : Value) (w : World) : (Instr.typeAssert (.iface 66 v) 44 66 true).run Tryz.prog w = .ok (.tuple #[v, .bool true]) w := by kernel_rfl
theorem tn_uid (t : TypeId) (v : Value) (ht : ¬ t = 66) (w : World) : (Instr.typeAssert (.iface t v) 44 66 true).run Tryz.prog w = .ok (.tuple #[.agg #[.string ByteArray.empty, .string ByteArray.empty], .bool false]) w :=
  ta_no (d := (Tryz.prog.underlying 66).getD .invalid) (by kernel_rfl) (by rintro ⟨ms, h⟩; have h2 : (match (Tryz.prog.underlying 66).getD .invalid with | .interface _ => true | _ => false) = false := (by kernel_rfl); rw [h] at h2; cases h2) (fun w => by kernel_rfl) 44 t v ht w
set_option maxRecDepth 20000 in
set_option maxHeartbeats 400000 in
theorem eq_uid (x x' : ByteArray) (y y' : ByteArray) (w : World) : Calls Tryz.prog 275 #[.agg #[.string x, .string x'], .iface 66 (.agg #[.string y, .string y'])] w (EqPost w) := by
  have hta := ta_uid (.agg #[.string y, .string y'])
  go_enter Tryz.func275, Tryz.ntmps275
  go_wp2
  all_goals go_ret
  all_goals exact ⟨_, rfl, ((below_refl_alloc w _).alloc (by simp) _)⟩
set_option maxRecDepth 20000 in
set_option maxHeartbeats 400000 in
theorem eq_uid' (x x' : ByteArray) (t : TypeId) (v : Value) (ht : ¬ t = 66) (w : World) : Calls Tryz.prog 275 #[.agg #[.string x, .string x'], .iface t v] w (EqPost w) := by
  have hta := tn_uid t v ht
  go_enter Tryz.func275, Tryz.ntmps275
  go_wp2
  all_goals go_ret
  all_goals exact ⟨_, rfl, ((below_refl_alloc w _).alloc (by simp) _)⟩

theorem ta_dec (v : Value) (w : World) : (Instr.typeAssert (.iface 183 v) 44 183 true).run Tryz.prog w = .ok (.tuple #[v, .bool true]) w := by kernel_rfl
theorem tn_dec (t : TypeId) (v : Value) (ht : ¬ t = 183) (w : World) : (Instr.typeAssert (.iface t v) 44 183 true).run Tryz.prog w = .ok (.tuple #[.agg #[.int .i64 0], .bool false]) w :=
  ta_no (d := (Tryz.prog.underlying 183).getD .invalid) (by kernel_rfl) (by rintro ⟨ms, h⟩; have h2 : (match (Tryz.prog.underlying 183).getD .invalid with | .interface _ => true | _ => false) = false := (by kernel_rfl); rw [h] at h2; cases h2) (fun w => by kernel_rfl) 44 t v ht w
set_option maxRecDepth 20000 in
set_option maxHeartbeats 400000 in
theorem eq_dec (x : Int) (y : Int) (w : World) : Calls Tryz.prog 310 #[.agg #[.int .i64 x], .iface 183 (.agg #[.int .i64 y])] w (EqPost w) := by
  have hta := ta_dec (.agg #[.int .i64 y])
  go_enter Tryz.func310, Tryz.ntmps310
  go_wp2
  all_goals go_ret
  all_goals exact ⟨_, rfl, ((below_refl_alloc w _).alloc (by simp) _)⟩
set_option maxRecDepth 20000 in
set_option maxHeartbeats 400000 in
theorem eq_dec' (x : Int) (t : TypeId) (v : Value) (ht : ¬ t = 183) (w : World) : Calls Tryz.prog 310 #[.agg #[.int .i64 x], .iface t v] w (EqPost w) := by
  have hta := tn_dec t v ht
  go_enter Tryz.func310, Tryz.ntmps310
  go_wp2
  all_goals go_ret
  all_goals exact ⟨_, rfl, ((below_refl_alloc w _).alloc (by simp) _)⟩

theorem ta_dt (v : Value) (w : World) : (Instr.typeAssert (.iface 185 v) 44 185 true).run Tryz.prog w = .ok (.tuple #[v, .bool true]) w := by kernel_rfl
theorem tn_dt (t : TypeId) (v : Value) (ht : ¬ t = 185) (w : World) : (Instr.typeAssert (.iface t v) 44 185 true).run Tryz.prog w = .ok (.tuple #[.agg #[.int .i64 0], .bool false]) w :=
  ta_no (d := (Tryz.prog.underlying 185).getD .invalid) (by kernel_rfl) (by rintro ⟨ms, h⟩; have h2 : (match (Tryz.prog.underlying 185).getD .invalid with | .interface _ => true | _ => false) = false := (by kernel_rfl); rw [h] at h2; cases h2) (fun w => by kernel_rfl) 44 t v ht w
set_option maxRecDepth 20000 in
set_option maxHeartbeats 400000 in
theorem eq_dt (x : Int) (y : Int) (w : World) : Calls Tryz.prog 315 #[.agg #[.int .i64 x], .iface 185 (.agg #[.int .i64 y])] w (EqPost w) := by
  have hta := ta_dt (.agg #[.int .i64 y])
  go_enter Tryz.func315, Tryz.ntmps315
  go_wp2
  all_goals go_ret
  all_goals exact ⟨_, rfl, ((below_refl_alloc w _).alloc (by simp) _)⟩
set_option maxRecDepth 20000 in
set_option maxHeartbeats 400000 in
theorem eq_dt' (x : Int) (t : TypeId) (v : Value) (ht : ¬ t = 185) (w : World) : Calls Tryz.prog 315 #[.agg #[.int .i64 x], .iface t v] w (EqPost w) := by
  have hta := tn_dt t v ht
  go_enter Tryz.func315, Tryz.ntmps315
  go_wp2
  all_goals go_ret
  all_goals exact ⟨_, rfl, ((below_refl_alloc w _).alloc (by simp) _)⟩

theorem ta_dur (v : Value) (w : World) : (Instr.typeAssert (.iface 187 v) 44 187 true).run Tryz.prog w = .ok (.tuple #[v, .bool true]) w := by kernel_rfl
theorem tn_dur (t : TypeId) (v : Value) (ht : ¬ t = 187) (w : World) : (Instr.typeAssert (.iface t v) 44 187 true).run Tryz.prog w = .ok (.tuple #[.agg #[.int .i64 0], .bool false]) w :=
  ta_no (d := (Tryz.prog.underlying 187).getD .invalid) (by kernel_rfl) (by rintro ⟨ms, h⟩; have h2 : (match (Tryz.prog.underlying 187).getD .invalid with | .interface _ => true | _ => false) = false := (by kernel_rfl); rw [h] at h2; cases h2) (fun w => by kernel_rfl) 44 t v ht w
set_option maxRecDepth 20000 in
set_option maxHeartbeats 400000 in
theorem eq_dur (x : Int) (y : Int) (w : World) : Calls Tryz.prog 320 #[.agg #[.int .i64 x], .iface 187 (.agg #[.int .i64 y])] w (EqPost w) := by
  have hta := ta_dur (.agg #[.int .i64 y])
  go_enter Tryz.func320, Tryz.ntmps320
  go_wp2
  all_goals go_ret
  all_goals exact ⟨_, rfl, ((below_refl_alloc w _).alloc (by simp) _)⟩
set_option maxRecDepth 20000 in
set_option maxHeartbeats 400000 in
theorem eq_dur' (x : Int) (t : TypeId) (v : Value) (ht : ¬ t = 187) (w : World) : Calls Tryz.prog 320 #[.agg #[.int .i64 x], .iface t v] w (EqPost w) := by
  have hta := tn_dur t v ht
  go_enter Tryz.func320, Tryz.ntmps320
  go_wp2
  all_goals go_ret
  all_goals exact ⟨_, rfl, ((below_refl_alloc w _).alloc (by simp) _)⟩
end Go.Proofs.Exp
