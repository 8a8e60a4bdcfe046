/- Part of the proof of FnAuthorizeNone: without policies no request is allowed; for every world that comes in. -/
import Derived.Test.YtaigmemiklfjoaaGreatDoorProg
import Derived.Test.YtaigmemiklfjoaaGreatDoorZBase
set_option linter.unusedSimpArgs false
set_option linter.unusedVariables false
set_option linter.unnecessarySimpa false
namespace Go.Proofs.Exp
open Go.RowKit
set_option linter.unusedVariables false

theorem m_write (p : Addr) (w : World) : (method 768 260 (.pointer (some p)) "Write").run Tryz.prog w = .ok (360, .pointer (some p)) w := by kernel_rfl
theorem m_sum (p : Addr) (w : World) : (method 768 260 (.pointer (some p)) "Sum64").run Tryz.prog w = .ok (359, .pointer (some p)) w := by kernel_rfl

def FnvPost (w : World) (p : Addr) (n : Nat) (e : Ending) (w' : World) : Prop := ∃ h' : Int, e = .returned (.tuple #[.int .i64 n, .nilIface]) ∧ w' = w.setCell p (.int .u64 h')
set_option maxHeartbeats 400000 in
theorem fnv_write (p : Addr) (b off n cap : Nat) (bs : Nat → Int) (h : Int) (w : World) (hn : n ≤ 140737488351232)
    (hp : w.cell? p = some (.int .u64 h)) (hf : w.frozen? p = false)
    (hc : ∀ i, i < n → w.cell? ⟨b, off + i, none⟩ = some (.int .u8 (bs i))) :
    Calls Tryz.prog 360 #[.pointer (some p), .slice (some ⟨b, off, none⟩) n cap] w (FnvPost w p n) := by
  go_enter Tryz.func360, Tryz.ntmps360
  go_wp2
  go_loop [6, 8, 14] (fun h c i => ∃ k : Nat, ∃ x : Int, k ≤ n ∧ h = .int .u64 x ∧ i = .int .i64 k) (fun _ _ i => n - (intOf i).toNat)
  case atStart => exact ⟨0, _, by omega, rfl, rfl⟩
  case round =>
    obtain ⟨k, x, hk, rfl, rfl⟩ := hrel
    have hck : k < n → w.cell? ⟨b, off + k, none⟩ = some (.int .u8 (bs k)) := fun h => hc k h
    clear hc
    go_wp2
    · go_round
      case rel => exact ⟨k + 1, _, by omega, rfl, by go_num⟩
      case measure => simp [intOf]; omega
    · go_ret2
      exact ⟨x, rfl, rfl⟩
set_option maxHeartbeats 400000 in
theorem fnv_write0 (p : Addr) (a : Option Addr) (cap : Nat) (h : Int) (w : World)
    (hp : w.cell? p = some (.int .u64 h)) (hf : w.frozen? p = false) :
    Calls Tryz.prog 360 #[.pointer (some p), .slice a 0 cap] w (FnvPost w p 0) := by
  go_enter Tryz.func360, Tryz.ntmps360
  go_wp2
  go_loop [6, 8, 14] (fun x c i => x = .int .u64 h ∧ i = .int .i64 0) (fun _ _ i => 0)
  case atStart => exact ⟨rfl, rfl⟩
  case round =>
    obtain ⟨rfl, rfl⟩ := hrel
    go_wp2
    go_ret2
    exact ⟨h, rfl, rfl⟩
set_option maxHeartbeats 400000 in
theorem fnv_sum (p : Addr) (h : Int) (w : World) (hp : w.cell? p = some (.int .u64 h)) :
    Calls Tryz.prog 359 #[.pointer (some p)] w fun e w' => e = .returned (.int .u64 h) ∧ w' = w := by
  go_enter Tryz.func359, Tryz.ntmps359
  go_wp2
  go_ret
  exact ⟨rfl, rfl⟩
set_option maxHeartbeats 400000 in
theorem fnv_new (w : World) :
    Calls Tryz.prog 58 #[] w fun e w' => e = .returned (.iface 260 (.pointer (some ⟨w.heap.size, 0, none⟩))) ∧ w' = w.alloc (.cells #[.int .u64 14695981039346656037] 259) := by
  go_enter Tryz.func58, Tryz.ntmps58
  go_wp2
  go_ret
  exact ⟨rfl, rfl⟩
end Go.Proofs.Exp
namespace Go.Proofs.Exp
open Go.RowKit
set_option linter.unusedVariables false
def HashPost (w : World) (e : Ending) (w' : World) : Prop := ∃ h : Int, e = .returned (.int .u64 h) ∧ Below w.heap.size w w'
theorem u64T : Tryz.prog.underlying 64 = some .string := by kernel_rfl
theorem u199T : Tryz.prog.underlying 199 = some (.slice 5) := by kernel_rfl
theorem u5T : Tryz.prog.underlying 5 = some (.int .u8) := by kernel_rfl
theorem u63T : Tryz.prog.underlying 63 = some .string := by kernel_rfl
set_option maxRecDepth 10000 in
set_option maxHeartbeats 400000 in
theorem hash_str (s : ByteArray) (w : World) (hs : s.size ≤ 140737488351232) :
    Calls Tryz.prog 274 #[.string s] w (HashPost w) := by
  go_enter Tryz.func274, Tryz.ntmps274
  go_wp2_with fail
  refine (fnv_new _).mono ?_
  rintro e w' ⟨rfl, rfl⟩
  generalize hN : (14695981039346656037 : Int) = N
  clear hN
  go_wp2_with ((with_reducible show wpList _ _ _ ({ dst := _, op := Op.convert _ _ _, type := _, pos := _, after := _, guard := _ } :: _) _ _); refine wpList_str_bytes rfl 64 199 5 _ rfl u64T u199T u5T s rfl ?_)
  intro w1 cap hsz hb hc
  have hp : w1.cell? ⟨w.heap.size, 0, none⟩ = some (.int .u64 N) := cell_below hb (by simp) (by go_simp)
  have hf : w1.frozen? ⟨w.heap.size, 0, none⟩ = false := frozen_below hb (by simp) (by go_simp)
  have hm := m_write ⟨w.heap.size, 0, none⟩
  have hm2 := m_sum ⟨w.heap.size, 0, none⟩
  go_wp2_with (go_at_call 360; refine (fnv_write _ _ 0 _ cap (fun i => ((s.data[i]?.getD 0).toNat : Int)) N _ hs hp hf (fun i hi => by simpa using hc i hi)).mono ?_; rintro e w2 ⟨h', rfl, rfl⟩)
  have hq : (w1.setCell ⟨w.heap.size, 0, none⟩ (.int .u64 h')).cell? ⟨w.heap.size, 0, none⟩ = some (.int .u64 h') := by go_simp
  refine (fnv_sum _ h' _ hq).mono ?_
  rintro e w3 ⟨rfl, rfl⟩
  go_wp2
  go_ret
  refine ⟨h', rfl, ?_⟩
  exact (((below_refl_alloc w _).trans (hb.mono (by simp))).setCell (by simp) _)
end Go.Proofs.Exp
namespace Go.Proofs.Exp
open Go.RowKit
set_option linter.unusedVariables false
set_option maxRecDepth 10000 in
set_option maxHeartbeats 600000 in
theorem hash_uid (s t : ByteArray) (w : World) (hs : s.size ≤ 140737488351232) (ht : t.size ≤ 140737488351232) :
    Calls Tryz.prog 279 #[.agg #[.string s, .string t]] w (HashPost w) := by
  go_enter Tryz.func279, Tryz.ntmps279
  go_wp2_with fail
  refine (fnv_new _).mono ?_
  rintro e w' ⟨rfl, rfl⟩
  generalize hN : (14695981039346656037 : Int) = N
  clear hN
  go_wp2_with ((with_reducible show wpList _ _ _ ({ dst := _, op := Op.convert _ _ _, type := _, pos := _, after := _, guard := _ } :: _) _ _); refine wpList_str_bytes rfl 63 199 5 _ rfl u63T u199T u5T s rfl ?_)
  intro w1 cap hsz hb hc
  have hp : w1.cell? ⟨w.heap.size + 1, 0, none⟩ = some (.int .u64 N) := cell_below hb (by simp) (by go_simp)
  have hf : w1.frozen? ⟨w.heap.size + 1, 0, none⟩ = false := frozen_below hb (by simp) (by go_simp)
  have hq0 : w1.cell? ⟨w.heap.size, 0, none⟩ = some (.string s) := cell_below hb (by simp; omega) (by go_simp)
  have hq1 : w1.cell? ⟨w.heap.size, 1, none⟩ = some (.string t) := cell_below hb (by simp; omega) (by go_simp)
  have hb1 : Below w.heap.size w w1 := ((below_refl_alloc w _).alloc (by simp) _).trans (hb.mono (by omega))
  clear hb
  have hm := m_write ⟨w.heap.size + 1, 0, none⟩
  have hm2 := m_sum ⟨w.heap.size + 1, 0, none⟩
  go_wp2_with (first
    | (go_at_call 360; refine (fnv_write _ _ 0 _ cap (fun i => ((s.data[i]?.getD 0).toNat : Int)) N _ hs hp hf (fun i hi => by simpa using hc i hi)).mono ?_; rintro e w2 ⟨h', rfl, rfl⟩)
    | ((with_reducible show wpList _ _ _ ({ dst := _, op := Op.convert _ _ _, type := _, pos := _, after := _, guard := _ } :: _) _ _); refine wpList_str_bytes rfl 64 199 5 _ rfl u64T u199T u5T t rfl ?_))
  intro w2 cap2 hsz2 hb2 hc2
  have hb2' : Below w.heap.size w w2 := (hb1.setCell (p := ⟨w.heap.size + 1, 0, none⟩) (by simp) _).trans (hb2.mono (by omega))
  have hp2 : w2.cell? ⟨w.heap.size + 1, 0, none⟩ = some (.int .u64 h') := cell_below hb2 (by simp) (by go_simp)
  have hf2 : w2.frozen? ⟨w.heap.size + 1, 0, none⟩ = false := frozen_below hb2 (by simp) (by go_simp)
  clear hb2 hb1 hp hf hq0 hq1 hc
  go_wp2_with (go_at_call 360; refine (fnv_write _ _ 0 _ cap2 (fun i => ((t.data[i]?.getD 0).toNat : Int)) h' _ ht hp2 hf2 (fun i hi => by simpa using hc2 i hi)).mono ?_; rintro e w3 ⟨h2, rfl, rfl⟩)
  have hq : (w2.setCell ⟨w.heap.size + 1, 0, none⟩ (.int .u64 h2)).cell? ⟨w.heap.size + 1, 0, none⟩ = some (.int .u64 h2) := by go_simp
  refine (fnv_sum _ h2 _ hq).mono ?_
  rintro e w3 ⟨rfl, rfl⟩
  go_wp2
  go_ret
  exact ⟨h2, rfl, hb2'.setCell (by simp) _⟩
end Go.Proofs.Exp
namespace Go.Proofs.Exp
open Go.RowKit
set_option linter.unusedVariables false
set_option maxHeartbeats 400000 in
theorem hash_bool (x : Bool) (w : World) : Calls Tryz.prog 289 #[.bool x] w (HashPost w) := by
  go_enter Tryz.func289, Tryz.ntmps289
  go_wp2
  all_goals go_ret
  all_goals exact ⟨_, rfl, Below.refl _ _⟩
set_option maxHeartbeats 400000 in
theorem hash_long (n : Int) (w : World) : Calls Tryz.prog 301 #[.int .i64 n] w (HashPost w) := by
  go_enter Tryz.func301, Tryz.ntmps301
  go_wp2
  go_ret
  exact ⟨_, rfl, Below.refl _ _⟩
set_option maxHeartbeats 400000 in
theorem hash_dec (n : Int) (w : World) : Calls Tryz.prog 314 #[.agg #[.int .i64 n]] w (HashPost w) := by
  go_enter Tryz.func314, Tryz.ntmps314
  go_wp2
  go_ret
  exact ⟨_, rfl, below_refl_alloc w _⟩
set_option maxHeartbeats 400000 in
theorem hash_dt (n : Int) (w : World) : Calls Tryz.prog 319 #[.agg #[.int .i64 n]] w (HashPost w) := by
  go_enter Tryz.func319, Tryz.ntmps319
  go_wp2
  go_ret
  exact ⟨_, rfl, below_refl_alloc w _⟩
set_option maxHeartbeats 400000 in
theorem hash_dur (n : Int) (w : World) : Calls Tryz.prog 323 #[.agg #[.int .i64 n]] w (HashPost w) := by
  go_enter Tryz.func323, Tryz.ntmps323
  go_wp2
  go_ret
  exact ⟨_, rfl, below_refl_alloc w _⟩
set_option maxHeartbeats 400000 in
theorem hash_set (m : Option Nat) (h : Int) (w : World) : Calls Tryz.prog 308 #[.agg #[.map m, .int .u64 h]] w (HashPost w) := by
  go_enter Tryz.func308, Tryz.ntmps308
  go_wp2
  go_ret
  exact ⟨_, rfl, below_refl_alloc w _⟩
set_option maxHeartbeats 400000 in
theorem hash_rec (m : Option Nat) (h : Int) (w : World) : Calls Tryz.prog 266 #[.agg #[.map m, .int .u64 h]] w (HashPost w) := by
  go_enter Tryz.func266, Tryz.ntmps266
  go_wp2
  go_ret
  exact ⟨_, rfl, below_refl_alloc w _⟩

theorem mh_bool (x : Bool) (w : World) : (method (Tryz.prog.types.size + Made.depth) 110 (.bool x) "pub-claviger/pub/cedargo/types.hash").run Tryz.prog w = .ok (289, .bool x) w := by kernel_rfl
theorem mh_long (n : Int) (w : World) : (method (Tryz.prog.types.size + Made.depth) 174 (.int .i64 n) "pub-claviger/pub/cedargo/types.hash").run Tryz.prog w = .ok (301, .int .i64 n) w := by kernel_rfl
theorem mh_str (s : ByteArray) (w : World) : (method (Tryz.prog.types.size + Made.depth) 64 (.string s) "pub-claviger/pub/cedargo/types.hash").run Tryz.prog w = .ok (274, .string s) w := by kernel_rfl
theorem mh_uid (s t : ByteArray) (w : World) : (method (Tryz.prog.types.size + Made.depth) 66 (.agg #[.string s, .string t]) "pub-claviger/pub/cedargo/types.hash").run Tryz.prog w = .ok (279, .agg #[.string s, .string t]) w := by kernel_rfl
theorem mh_dec (n : Int) (w : World) : (method (Tryz.prog.types.size + Made.depth) 183 (.agg #[.int .i64 n]) "pub-claviger/pub/cedargo/types.hash").run Tryz.prog w = .ok (314, .agg #[.int .i64 n]) w := by kernel_rfl
theorem mh_dt (n : Int) (w : World) : (method (Tryz.prog.types.size + Made.depth) 185 (.agg #[.int .i64 n]) "pub-claviger/pub/cedargo/types.hash").run Tryz.prog w = .ok (319, .agg #[.int .i64 n]) w := by kernel_rfl
theorem mh_dur (n : Int) (w : World) : (method (Tryz.prog.types.size + Made.depth) 187 (.agg #[.int .i64 n]) "pub-claviger/pub/cedargo/types.hash").run Tryz.prog w = .ok (323, .agg #[.int .i64 n]) w := by kernel_rfl
theorem mh_set (m : Option Nat) (h : Int) (w : World) : (method (Tryz.prog.types.size + Made.depth) 180 (.agg #[.map m, .int .u64 h]) "pub-claviger/pub/cedargo/types.hash").run Tryz.prog w = .ok (308, .agg #[.map m, .int .u64 h]) w := by kernel_rfl
theorem mh_rec (m : Option Nat) (h : Int) (w : World) : (method (Tryz.prog.types.size + Made.depth) 52 (.agg #[.map m, .int .u64 h]) "pub-claviger/pub/cedargo/types.hash").run Tryz.prog w = .ok (266, .agg #[.map m, .int .u64 h]) w := by kernel_rfl
theorem me_bool (x : Bool) (w : World) : (method (Tryz.prog.types.size + Made.depth) 110 (.bool x) "Equal").run Tryz.prog w = .ok (286, .bool x) w := by kernel_rfl
theorem me_long (n : Int) (w : World) : (method (Tryz.prog.types.size + Made.depth) 174 (.int .i64 n) "Equal").run Tryz.prog w = .ok (298, .int .i64 n) w := by kernel_rfl
theorem me_str (s : ByteArray) (w : World) : (method (Tryz.prog.types.size + Made.depth) 64 (.string s) "Equal").run Tryz.prog w = .ok (271, .string s) w := by kernel_rfl
theorem me_uid (s t : ByteArray) (w : World) : (method (Tryz.prog.types.size + Made.depth) 66 (.agg #[.string s, .string t]) "Equal").run Tryz.prog w = .ok (275, .agg #[.string s, .string t]) w := by kernel_rfl
theorem me_dec (n : Int) (w : World) : (method (Tryz.prog.types.size + Made.depth) 183 (.agg #[.int .i64 n]) "Equal").run Tryz.prog w = .ok (310, .agg #[.int .i64 n]) w := by kernel_rfl
theorem me_dt (n : Int) (w : World) : (method (Tryz.prog.types.size + Made.depth) 185 (.agg #[.int .i64 n]) "Equal").run Tryz.prog w = .ok (315, .agg #[.int .i64 n]) w := by kernel_rfl
theorem me_dur (n : Int) (w : World) : (method (Tryz.prog.types.size + Made.depth) 187 (.agg #[.int .i64 n]) "Equal").run Tryz.prog w = .ok (320, .agg #[.int .i64 n]) w := by kernel_rfl
theorem me_set (m : Option Nat) (h : Int) (w : World) : (method (Tryz.prog.types.size + Made.depth) 180 (.agg #[.map m, .int .u64 h]) "Equal").run Tryz.prog w = .ok (304, .agg #[.map m, .int .u64 h]) w := by kernel_rfl
theorem me_rec (m : Option Nat) (h : Int) (w : World) : (method (Tryz.prog.types.size + Made.depth) 52 (.agg #[.map m, .int .u64 h]) "Equal").run Tryz.prog w = .ok (262, .agg #[.map m, .int .u64 h]) w := by kernel_rfl
end Go.Proofs.Exp
