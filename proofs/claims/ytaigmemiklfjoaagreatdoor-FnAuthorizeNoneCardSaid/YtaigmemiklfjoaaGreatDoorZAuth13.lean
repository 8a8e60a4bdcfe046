/- Part of the proof of FnAuthorizeNone: without policies no request is allowed; for every world that comes in. -/
import Derived.Test.YtaigmemiklfjoaaGreatDoorZWorld11
set_option linter.unusedSimpArgs false
set_option linter.unusedVariables false
set_option linter.unnecessarySimpa false
namespace Go.Proofs.Exp
open Go.RowKit
set_option linter.unusedVariables false
attribute [local go_sem] Oper.semAt_some
set_option maxRecDepth 20000 in
set_option maxHeartbeats 1600000 in
/-- The iterator of an empty list calls nothing. -/
theorem all270 (l mb : Nat) (J : World → Prop) (W0 : World) (hmb : W0.cell? ⟨mb, 0, none⟩ = some (.slice none 0 0)) (h0 : J W0) :
    CallsIn Fence.wide 0 Tryz.prog 270 #[.func (.yield l) #[] #[], .pointer (some ⟨mb, 0, none⟩)] W0 (fun e w' => (∃ v, e = .returned v) ∧ J w') := by
  refine callsIn_of_wp Tryz.func270 rfl trivial ?_ rfl
  simp only [Tryz.ntmps270, List.size_toArray, List.length_cons, List.length_nil, Nat.reduceAdd, Nat.reduceSub, Array.replicate_succ, Array.replicate_zero, List.push_toArray, List.append_toArray, List.nil_append, List.cons_append]
  gi_wp2_with fail
  gi_loopw [7] (fun i wr => i = .int .i64 0 ∧ wr = W0) (fun _ wr => 0)
  case atStart => exact ⟨rfl, rfl⟩
  case round =>
    obtain ⟨rfl, rfl⟩ := hrel
    gi_wp2
    refine bodyPost_end (results_none rfl _ _ _) rfl ?_
    exact ⟨⟨_, rfl⟩, h0⟩
theorem all269 (w : World) : Calls Tryz.prog 269 #[.slice none 0 0] w fun e w' => e = .returned (.func (.func 270) #[] #[.pointer (some ⟨w.heap.size, 0, none⟩)]) ∧ w' = w.alloc (.cells #[.slice none 0 0] 62) := by
  go_enter Tryz.func269, Tryz.ntmps269
  go_wp2
  go_ret
  exact ⟨rfl, rfl⟩
theorem m_all (w : World) : (method 768 62 (.slice none 0 0) "All").run Tryz.prog w = .ok (269, .slice none 0 0) w := by kernel_rfl
theorem heap_alloc_if (w : World) (o : Obj) (i : Nat) : (w.alloc o).heap[i]? = if i = w.heap.size then some o else w.heap[i]? := by
  split
  · rename_i h; rw [h]; exact heap_alloc_new w o
  · rename_i h
    rcases Nat.lt_or_ge i w.heap.size with h1 | h1
    · exact Below.heap_alloc w o i h1
    · have h2 : w.heap[i]? = none := by simp [h1]
      have h3 : (w.alloc o).heap[i]? = none := by simp; omega
      rw [h2, h3]
/-- What stands while the loop over the policies runs. -/
structure InL (wr : World) (L : Loop) (W : World) : Prop where
  below : Below wr.heap.size wr W
  defer : W.heap[wr.heap.size]? = some (.deferred (some []))
  loop : W.heap[wr.heap.size + 1]? = some (.loop L)
  size : wr.heap.size + 2 ≤ W.heap.size
theorem InL.start (wr : World) (L : Loop) : InL wr L ((wr.alloc (.deferred (some []))).alloc (.loop L)) := by
  refine ⟨((Below.refl _ wr).alloc (Nat.le_refl _) _).alloc (by simp) _, ?_, ?_, by simp⟩
  · exact heap_last2 wr _ _
  · have := heap_alloc_new (wr.alloc (.deferred (some []))) (.loop L)
    simpa using this
theorem load59 (w : World) (b : Nat) (u v : Value) (h0 : w.cell? ⟨b, 0, none⟩ = some u) (h1 : w.cell? ⟨b, 1, none⟩ = some v) : (Instr.loadAt 59 (.pointer (some ⟨b, 0, none⟩))).run Tryz.prog w = .ok (.agg #[u, v]) w := by
  go_simp
theorem store59 (w : World) (b : Nat) {u0 u1 : Value} (hu : w.heap[b]? = some (.cells #[u0, u1] 59 (0, 0))) :
    (Instr.storeAt 59 (.pointer (some ⟨b, 0, none⟩)) (.agg #[.slice none 0 0, .slice none 0 0])).run Tryz.prog w = .ok () ((w.setCell ⟨b, 0, none⟩ (.slice none 0 0)).setCell ⟨b, 1, none⟩ (.slice none 0 0)) := by
  have c0 := blk1 hu 0
  have c1 := blk1 hu 1
  have f : ∀ i, w.frozen? ⟨b, i, none⟩ = false := fun i => by simp [World.frozen?, hu]
  simp only [List.getElem?_toArray, List.getElem?_cons_succ, List.getElem?_cons_zero] at c0 c1
  go_simp
theorem results_tmp_cell {P : Program} {fn : Func} {a u : Tmp} {t : TypeId} (h : fn.results = #[.tmp u, .cell a t]) (tmps : Array Value) (p : Addr) (hp : tmps.getD a undef = .pointer (some p)) (w : World) (v : Value) (hv : (loadVar t p).run P w = .ok v w) :
    (results fn tmps).run P w = .ok (.tuple #[tmps.getD u undef, v]) w := by
  have hp' : tmps[a]?.getD undef = .pointer (some p) := by simpa using hp
  simp only [results, h]
  simp [asAddr, hp', hv, Sem.run_bind, Result.andThen_ok, Sem.run_pure]
def ΦD (i : Nat) (u : Value) (_ : World) : Prop :=
  match i with
  | 0 => u = .agg #[.slice none 0 0, .slice none 0 0]
  | 1 => u = .bool false
  | _ => True
def AuPost (w : World) (e : Ending) (w' : World) : Prop := e = .returned (.tuple #[.bool false, .agg #[.slice none 0 0, .slice none 0 0]]) ∧ Below w.heap.size w w'
set_option maxRecDepth 20000 in
set_option maxHeartbeats 1600000 in
theorem auth13 (m : Option Nat) (s1 t1 s2 t2 s3 t3 : ByteArray) (m1 : Option Nat) (h1 : Int) (w : World) :
    Calls Tryz.prog 13 #[.iface 62 (.slice none 0 0), .iface 99 (.map m), .agg #[.string s1, .string t1, .string s2, .string t2, .string s3, .string t3, .map m1, .int .u64 h1]] w (AuPost w) := by
  refine (callsIn_wide (n := 0)).1 (callsIn_of_wp_marks Tryz.func13 rfl trivial ((wpIn_wide).2 ?_))
  simp only [Tryz.ntmps13, List.size_toArray, List.length_cons, List.length_nil, Nat.reduceAdd, Nat.reduceSub, Array.replicate_succ, Array.replicate_zero, List.push_toArray, List.append_toArray, List.nil_append, List.cons_append]
  have hma := m_all
  go_wp2_with fail
  obtain ⟨W6, hW6⟩ : ∃ W6, (((((w.alloc (.cells #[.string s1, .string t1, .string s2, .string t2, .string s3, .string t3, .map m1, .int .u64 h1] 69)).alloc (.cells #[.slice none 0 0, .slice none 0 0] 59)).alloc (.cells #[.iface 99 (.map m), .iface 66 (.agg #[.string s1, .string t1]), .iface 66 (.agg #[.string s2, .string t2]), .iface 66 (.agg #[.string s3, .string t3]), .iface 52 (.agg #[.map m1, .int .u64 h1])] 46)).alloc
      (.cells #[.slice none 0 0, .slice none 0 0] 59)).alloc (.cells #[.slice none 0 0] 56)).alloc (.cells #[.slice none 0 0] 56) = W6 := ⟨_, rfl⟩
  rw [hW6]
  have b6 : Below w.heap.size w W6 := by rw [← hW6]; exact (((((below_refl_alloc w _).alloc (by simp) _).alloc (by simp; omega) _).alloc (by simp; omega) _).alloc (by simp; omega) _).alloc (by simp; omega) _
  have z6 : W6.heap.size = w.heap.size + 1 + 1 + 1 + 1 + 1 + 1 := by rw [← hW6]; simp
  have k1 : W6.heap[w.heap.size + 1]? = some (.cells #[.slice none 0 0, .slice none 0 0] 59 (0, 0)) := by rw [← hW6]; simp only [heap_alloc_if, World.size_alloc]; simp; try omega
  have k3 : W6.heap[w.heap.size + 1 + 1 + 1]? = some (.cells #[.slice none 0 0, .slice none 0 0] 59 (0, 0)) := by rw [← hW6]; simp only [heap_alloc_if, World.size_alloc]; simp; try omega
  have k4 : W6.heap[w.heap.size + 1 + 1 + 1 + 1]? = some (.cells #[.slice none 0 0] 56 (0, 0)) := by rw [← hW6]; simp only [heap_alloc_if, World.size_alloc]; simp; try omega
  have k5 : W6.heap[w.heap.size + 1 + 1 + 1 + 1 + 1]? = some (.cells #[.slice none 0 0] 56 (0, 0)) := by rw [← hW6]; simp only [heap_alloc_if, World.size_alloc]; simp; try omega
  have z6' : w.heap.size + 6 ≤ W6.heap.size := by omega
  clear hW6 hma z6
  refine (all269 _).mono ?_
  rintro e w2 ⟨rfl, rfl⟩
  go_wp2_with fail
  obtain ⟨W7, hW7⟩ : ∃ W7, W6.alloc (.cells #[.slice none 0 0] 62) = W7 := ⟨_, rfl⟩
  rw [hW7]
  have b7 : Below W6.heap.size W6 W7 := by rw [← hW7]; exact below_refl_alloc W6 _
  have z7 : W6.heap.size < W7.heap.size := by rw [← hW7]; simp
  have k7 : W7.heap[W6.heap.size]? = some (.cells #[.slice none 0 0] 62 (0, 0)) := by rw [← hW7]; exact heap_alloc_new W6 _
  clear hW7
  refine wp_rangeFunc_J 270 #[.pointer (some ⟨W6.heap.size, 0, none⟩)] Tryz.f270 rfl Tryz.func270 (by kernel_rfl) (by kernel_rfl) (InL W7) ?iter ?rest
  case iter =>
    intro fnid
    unfold rangeWorld
    simp only [World.size_alloc]
    generalize hL : loopRec fnid _ _ _ _ _ = L
    refine (all270 (W7.heap.size + 1) W6.heap.size (InL W7 L) _ ?hmb (InL.start W7 L)).mono ?hpost
    case hmb => exact blk1 ((InL.start W7 L).below.block _ (by omega) |>.trans k7) 0
    case hpost =>
      rintro e w' ⟨⟨v, rfl⟩, hj⟩
      exact ⟨⟨_, rfl⟩, hj, hj.loop⟩
  case rest =>
    intro fnid W hJ hl
    have hd := hJ.defer
    have hsW := hJ.size
    have hb := hJ.below
    clear hl hJ
    generalize hWz : World.mk (W.heap.setIfInBounds _ _) _ _ _ _ = Wz
    have hoz : ∀ c, c ≠ W7.heap.size + 1 → Wz.heap[c]? = W.heap[c]? := by
      intro c hc; rw [← hWz]; exact setBlk_other hc _
    have hsz2 : Wz.heap.size = W.heap.size := by rw [← hWz]; simp
    have hbz : Below W7.heap.size W Wz := by rw [← hWz]; exact setBlk_below (by omega) _
    have hdz := (hoz W7.heap.size (by omega)).trans hd
    have tr : ∀ c, c < W6.heap.size → Wz.heap[c]? = W6.heap[c]? := fun c hc => (hoz c (by omega)).trans ((hb.block c (by omega)).trans (b7.block c hc))
    have k1 := (tr _ (by omega)).trans k1
    have k3 := (tr _ (by omega)).trans k3
    have k4 := (tr _ (by omega)).trans k4
    have k5 := (tr _ (by omega)).trans k5
    have hbwz : Below w.heap.size w Wz := b6.trans ((b7.mono (by omega)).trans ((hb.mono (by omega)).trans (hbz.mono (by omega))))
    clear hWz hoz hd hb hbz tr b6 b7 k7
    have c4 : Wz.cell? ⟨w.heap.size + 1 + 1 + 1 + 1, 0, none⟩ = some (.slice none 0 0) := blk1 k4 0
    have c5 : Wz.cell? ⟨w.heap.size + 1 + 1 + 1 + 1 + 1, 0, none⟩ = some (.slice none 0 0) := blk1 k5 0
    go_wp2_with fail
    refine wp_region_last (by kernel_rfl) (by kernel_rfl) 2 _ rfl rfl (by kernel_rfl) (Below Wz.heap.size) ΦD ?e0 (fun _ _ _ h k => h.trans k) ?hphi ?hop ?last
    case e0 => exact (Below.refl _ _).drew
    case hphi => intro j u w1 w2 _ h; exact h
    case hop =>
      intro i o hiL hi
      match i, hi with
      | 0, hi =>
        obtain rfl := Option.some.inj hi
        intro a w6 hE hoth hpre
        have k6 := (hE.block (w.heap.size + 1 + 1 + 1) (by omega)).trans k3
        exact wpo_load 59 (.tmp 10) rfl _ (hoth 10 (by decide)) _ (load59 w6 _ _ _ (blk1 k6 0) (blk1 k6 1)) ⟨Below.refl _ _, _, rfl, rfl⟩
      | 1, hi =>
        obtain rfl := Option.some.inj hi
        intro a w6 hE hoth hpre
        exact wpo_assign (.const (.bool false)) rfl _ rfl ⟨Below.refl _ _, _, rfl, rfl⟩
      | i + 2, hi => omega
    case last =>
      intro listed a w6 hF hl
      have g0 : a.tmps.getD 91 undef = .agg #[.slice none 0 0, .slice none 0 0] := hF.facts 0 _ rfl (hl 0 (by omega))
      have g1 : a.tmps.getD 6 undef = .bool false := hF.facts 1 _ rfl (hl 1 (by omega))
      have hE6 := hF.ext
      have k6 := (hE6.block (w.heap.size + 1) (by omega)).trans k1
      have d6 := (hE6.block W7.heap.size (by omega)).trans hdz
      have b6 := hbwz.trans (hE6.mono (by omega))
      have ha7 : a.tmps.getD 7 undef = .pointer (some ⟨w.heap.size + 1, 0, none⟩) := hF.other 7 (by decide)
      have hdf : a.defers = [{ target := .collected W7.heap.size, args := #[] }] := hF.defers
      refine wpo_store 59 (.tmp 7) (.tmp 91) rfl _ ha7 _ g0 _ (store59 w6 _ k6) ?_
      have hh := setCell_here (o := 1) (setCell_here (o := 0) k6 (.slice none 0 0)) (.slice none 0 0)
      have d7 : ((w6.setCell ⟨w.heap.size + 1, 0, none⟩ (.slice none 0 0)).setCell ⟨w.heap.size + 1, 1, none⟩ (.slice none 0 0)).heap[W7.heap.size]? = some (.deferred (some [])) := by
        rw [Below.heap_setCell _ _ _ _ (by show W7.heap.size ≠ w.heap.size + 1; omega), Below.heap_setCell _ _ _ _ (by show W7.heap.size ≠ w.heap.size + 1; omega)]; exact d6
      have b7 : Below w.heap.size w ((w6.setCell ⟨w.heap.size + 1, 0, none⟩ (.slice none 0 0)).setCell ⟨w.heap.size + 1, 1, none⟩ (.slice none 0 0)) := (b6.setCell (by show w.heap.size ≤ w.heap.size + 1; omega) _).setCell (by show w.heap.size ≤ w.heap.size + 1; omega) _
      generalize ((w6.setCell ⟨w.heap.size + 1, 0, none⟩ (.slice none 0 0)).setCell ⟨w.heap.size + 1, 1, none⟩ (.slice none 0 0)) = Wf at hh d7 b7 ⊢
      clear hF hE6 k6 d6 b6
      obtain ⟨tm, df⟩ := a
      simp only at hdf g1 ha7
      subst hdf
      simp only [Act.put]
      go_wp2
      refine ⟨by simp, .inl ⟨_, _, rfl, run_takeDeferred d7, ?_⟩⟩
      have hpo : ∀ c, c ≠ W7.heap.size → (Wf.putObj W7.heap.size (.deferred none)).heap[c]? = Wf.heap[c]? := fun c h1 => setBlk_other (w := Wf) h1 _
      have hf1 := (hpo (w.heap.size + 1) (by omega)).trans hh
      refine ⟨.tuple #[.bool false, .agg #[.slice none 0 0, .slice none 0 0]], ?_, rfl, b7.trans (setBlk_below (w := Wf) (by omega) _)⟩
      refine (results_tmp_cell (a := 7) (t := 59) (u := 6) (by kernel_rfl) _ ⟨w.heap.size + 1, 0, none⟩ ha7 _ _ (load2 _ _ _ _ (by kernel_rfl) (by kernel_rfl) (blk1 hf1 0) (blk1 hf1 1))).trans ?_
      rw [g1]
      rfl
end Go.Proofs.Exp
namespace Go.Proofs.Exp
open Go.RowKit
set_option linter.unusedVariables false
attribute [local go_sem] Oper.semAt_some
def AzPost (w : World) (gd : Bool) (e : Ending) (w' : World) : Prop := e = .returned (.tuple #[.bool false, .slice none 0 0, .slice none 0 0, .bool !gd]) ∧ Below w.heap.size w w'
theorem results_tmp4 {fn : Func} {t u v x : Tmp} (h : fn.results = #[.tmp t, .tmp u, .tmp v, .tmp x]) (tmps : Array Value) (P : Program) (w : World) :
    (results fn tmps).run P w = .ok (.tuple #[tmps.getD t undef, tmps.getD u undef, tmps.getD v undef, tmps.getD x undef]) w := by
  simp only [results, h]
  simp [Sem.run_bind, Result.andThen_ok, Sem.run_pure]
def ΦZ (e t10 : Nat) (m : Option Nat) (s1 t1 s2 t2 s3 t3 : ByteArray) (m1 : Option Nat) (h1 : Int) (i : Nat) (u : Value) (W : World) : Prop :=
  match i with
  | 0 => u = .slice none 0 0
  | 1 => u = .iface 62 (.slice none 0 0)
  | 2 => u = .pointer (some ⟨t10, 0, none⟩)
  | 3 => u = .iface 99 (.map m)
  | 4 => u = .pointer (some ⟨e, 1, none⟩)
  | 5 => u = .agg #[.string s1, .string t1]
  | 6 => u = .agg #[.string s1, .string t1]
  | 7 => u = .pointer (some ⟨e, 3, none⟩)
  | 8 => u = .agg #[.string s2, .string t2]
  | 9 => u = .agg #[.string s2, .string t2]
  | 10 => u = .pointer (some ⟨e, 5, none⟩)
  | 11 => u = .agg #[.string s3, .string t3]
  | 12 => u = .agg #[.string s3, .string t3]
  | 13 => u = .agg #[.map m1, .int .u64 h1]
  | 14 => u = .agg #[.string s1, .string t1, .string s2, .string t2, .string s3, .string t3, .map m1, .int .u64 h1]
  | 15 => u = .tuple #[.bool false, .agg #[.slice none 0 0, .slice none 0 0]]
  | 16 => u = .tuple #[.bool false, .agg #[.slice none 0 0, .slice none 0 0]]
  | 17 => u = .bool false
  | 18 => u = .agg #[.slice none 0 0, .slice none 0 0]
  | 19 => ∃ q, u = .pointer (some ⟨q, 0, none⟩) ∧ e < q ∧ W.heap[q]? = some (.cells #[.slice none 0 0, .slice none 0 0] 59 (0, 0))
  | 20 => u = .bool false
  | _ => True
theorem ΦZ.kept {e t10 : Nat} {m : Option Nat} {s1 t1 s2 t2 s3 t3 : ByteArray} {m1 : Option Nat} {h1 : Int} {i : Nat} {u : Value} {w1 w2 : World} (hE : Below w1.heap.size w1 w2) (h : ΦZ e t10 m s1 t1 s2 t2 s3 t3 m1 h1 i u w1) : ΦZ e t10 m s1 t1 s2 t2 s3 t3 m1 h1 i u w2 := by
  unfold ΦZ at h ⊢
  split <;> first | exact trivial | exact h | skip
  obtain ⟨q, h1, h2, h3⟩ := h
  exact ⟨q, h1, h2, (hE.block q (Array.getElem?_eq_some_iff.1 h3).1).trans h3⟩
theorem mkI62 (w : World) : (Instr.makeInterface 62 (.slice none 0 0)).run Tryz.prog w = .ok (.iface 62 (.slice none 0 0)) w := by kernel_rfl
theorem field46_0 (w : World) (b : Nat) : (Instr.fieldAt 46 (.pointer (some ⟨b, 0, none⟩)) 0).run Tryz.prog w = .ok (.pointer (some ⟨b, 0, none⟩)) w := by kernel_rfl
theorem load42 (w : World) (b : Nat) (v : Value) (h0 : w.cell? ⟨b, 0, none⟩ = some v) : (Instr.loadAt 42 (.pointer (some ⟨b, 0, none⟩))).run Tryz.prog w = .ok v w := by
  go_simp
theorem build69 (w : World) (s1 t1 s2 t2 s3 t3 : ByteArray) (m1 : Option Nat) (h1 : Int) :
    (Instr.build 69 #[(0, .agg #[.string s1, .string t1]), (1, .agg #[.string s2, .string t2]), (2, .agg #[.string s3, .string t3]), (3, .agg #[.map m1, .int .u64 h1])]).run Tryz.prog w = .ok (.agg #[.string s1, .string t1, .string s2, .string t2, .string s3, .string t3, .map m1, .int .u64 h1]) w := by kernel_rfl
set_option maxRecDepth 20000 in
set_option maxHeartbeats 1600000 in
theorem authorize6 (w0 : World) (B : Nat) (d : WorldIn w0 B) (w : World) (hw : Below B w0 w) (hB : B ≤ w.heap.size) (gd : Bool) (hgd : gd = d.good) (v : Value) (hv : v = d.val) :
    Calls Tryz.prog 6 #[.slice none 0 0, v] w (AzPost w gd) := by
  have hwc := world_c w0 B d
  replace hwc : ∀ w, Below B w0 w → B ≤ w.heap.size → ∀ gd', gd' = gd → ∀ v', v' = v → Calls Tryz.prog 11 #[v'] w (WPost w gd') := fun w a b gd' h1 v' h2 => hwc w a b gd' (h1.trans hgd) v' (h2.trans hv)
  clear hgd
  obtain ⟨pe, ne, ce, ge, s1, t1, s2, t2, s3, t3, kd, n, s, t, pk, nk, ck, pl, nl, cl, ks, el, g, he, h1, h2, h3, hs, hk, hl, hr⟩ := d
  replace hv : v = .agg #[.slice pe ne ce, .string s1, .string t1, .string s2, .string t2, .string s3, .string t3, .int .i64 kd, .int .i64 n, .string s, .string t, .slice pk nk ck, .slice pl nl cl] := hv
  subst hv
  go_enter Tryz.func6, Tryz.ntmps6
  go_wp2_with fail
  refine (compiled_nil _).mono ?_
  rintro e w2 ⟨rfl, rfl⟩
  go_wp2_with fail
  obtain ⟨W1, hW1⟩ : ∃ W1, w.alloc (.cells #[.slice pe ne ce, .string s1, .string t1, .string s2, .string t2, .string s3, .string t3, .int .i64 kd, .int .i64 n, .string s, .string t, .slice pk nk ck, .slice pl nl cl] 30) = W1 := ⟨_, rfl⟩
  rw [hW1]
  have b1 : Below w.heap.size w W1 := by rw [← hW1]; exact below_refl_alloc w _
  have e1 : W1.heap[w.heap.size]? = some (.cells #[.slice pe ne ce, .string s1, .string t1, .string s2, .string t2, .string s3, .string t3, .int .i64 kd, .int .i64 n, .string s, .string t, .slice pk nk ck, .slice pl nl cl] 30 (0, 0)) := by rw [← hW1]; exact heap_alloc_new w _
  have z1 : W1.heap.size = w.heap.size + 1 := by rw [← hW1]; simp
  clear hW1
  refine (hwc W1 (hw.trans (b1.mono hB)) (by omega) gd rfl _ rfl).mono ?_
  rintro e w2 ⟨v, rfl, hb2, hv⟩
  have z2 := hb2.size
  have bo2 : Below w.heap.size w w2 := b1.trans (hb2.mono (by omega))
  have e2 := (hb2.block w.heap.size (by omega)).trans e1
  clear b1 e1 hb2 hwc
  rcases hv with ⟨rfl, rfl⟩ | ⟨m, v1, v2, v3, v4, rfl⟩
  · go_wp2
    try simp only [Exit.inBlock, Exit.then]
    refine bodyPost_ret (results_tmp4 (t := 4) (u := 5) (v := 6) (x := 7) (by kernel_rfl) _ _ _) rfl ?_
    exact ⟨rfl, bo2.alloc (by omega) _⟩
  · cases gd with
    | false =>
      go_wp2
      try simp only [Exit.inBlock, Exit.then]
      refine bodyPost_ret (results_tmp4 (t := 4) (u := 5) (v := 6) (x := 7) (by kernel_rfl) _ _ _) rfl ?_
      exact ⟨rfl, bo2.alloc (by omega) _⟩
    | true =>
      have q11 : ∀ o, (w2.alloc o).cell? ⟨w.heap.size, 11, none⟩ = some (.slice pk nk ck) := fun o => blk1 ((Below.heap_alloc w2 o _ (by omega)).trans e2) 11
      have q12 : ∀ o, (w2.alloc o).cell? ⟨w.heap.size, 12, none⟩ = some (.slice pl nl cl) := fun o => blk1 ((Below.heap_alloc w2 o _ (by omega)).trans e2) 12
      go_wp2_with fail
      obtain ⟨W3, hW3⟩ : ∃ W3, w2.alloc (.cells #[.iface 99 (.map m), .iface 66 v1, .iface 66 v2, .iface 66 v3, .iface 52 v4] 46) = W3 := ⟨_, rfl⟩
      rw [hW3]
      have b3 : Below w2.heap.size w2 W3 := by rw [← hW3]; exact below_refl_alloc w2 _
      have f3 : W3.heap[w2.heap.size]? = some (.cells #[.iface 99 (.map m), .iface 66 v1, .iface 66 v2, .iface 66 v3, .iface 52 v4] 46 (0, 0)) := by rw [← hW3]; exact heap_alloc_new w2 _
      have z3 : W3.heap.size = w2.heap.size + 1 := by rw [← hW3]; simp
      clear hW3 q11 q12
      have bo3 : Below w.heap.size w W3 := bo2.trans (b3.mono (by omega))
      have e3 := (b3.block w.heap.size (by omega)).trans e2
      refine (record_c w0 B nk ck nl cl pk pl ks el g hk hl (fun i hi => value_any (hr i hi)) W3 (hw.trans (bo3.mono hB)) (by omega)).mono ?_
      rintro e w4 ⟨m1, h1', rfl, hb4, _⟩
      have z4 := hb4.size
      have e4' := (hb4.block w.heap.size (by omega)).trans e3
      have f4' := (hb4.block w2.heap.size (by omega)).trans f3
      have bo4 : Below w.heap.size w w4 := bo3.trans (hb4.mono (by omega))
      clear b3 f3 bo2 e2 bo3 e3 hb4 hk hl hr
      generalize (decide (nk = nl) && allB nl g) = okk at *
      go_wp2_with fail
      obtain ⟨W5, hW5⟩ : ∃ W5, w4.alloc (.cells #[.map m1, .int .u64 h1'] 52) = W5 := ⟨_, rfl⟩
      rw [hW5]
      have b5 : Below w4.heap.size w4 W5 := by rw [← hW5]; exact below_refl_alloc w4 _
      have g5 : W5.heap[w4.heap.size]? = some (.cells #[.map m1, .int .u64 h1'] 52 (0, 0)) := by rw [← hW5]; exact heap_alloc_new w4 _
      have z5 : W5.heap.size = w4.heap.size + 1 := by rw [← hW5]; simp
      clear hW5
      have e4 := (b5.block w.heap.size (by omega)).trans e4'
      have f4 := (b5.block w2.heap.size (by omega)).trans f4'
      have bo5 : Below w.heap.size w W5 := bo4.trans (b5.mono (by omega))
      clear e4' f4' b5 bo4
      refine wp_region_last (by kernel_rfl) (by kernel_rfl) 21 _ rfl rfl (by kernel_rfl) (fun u v => Below u.heap.size u v) (ΦZ w.heap.size w2.heap.size m s1 t1 s2 t2 s3 t3 m1 h1') ?e0 (fun _ _ _ h k => h.trans (k.mono h.size)) ?hphi ?hop ?last
      case e0 => exact (Below.refl _ _).drew
      case hphi => intro j u w1 w2 hE h; exact h.kept hE
      case hop =>
        intro i o hiL hi
        match i, hi with
        | 0, hi =>
          obtain rfl := Option.some.inj hi
          intro a w6 hE hoth hpre
          exact wpo_move (.tmp 8) rfl _ (hoth 8 (by decide)) ⟨Below.refl _ _, _, rfl, rfl⟩
        | 1, hi =>
          obtain rfl := Option.some.inj hi
          intro a w6 hE hoth hpre
          have hh := hpre { on := 0, ground := .data } (by simp) rfl _ rfl
          exact wpo_mkI 62 (.tmp 47) rfl _ _ hh (mkI62 w6) ⟨Below.refl _ _, _, rfl, rfl⟩
        | 2, hi =>
          obtain rfl := Option.some.inj hi
          intro a w6 hE hoth hpre
          exact wpo_fieldAddr 46 (.tmp 10) 0 rfl _ (hoth 10 (by decide)) _ (field46_0 w6 _) ⟨Below.refl _ _, _, rfl, rfl⟩
        | 3, hi =>
          obtain rfl := Option.some.inj hi
          intro a w6 hE hoth hpre
          have hh := hpre { on := 2, ground := .data } (by simp) rfl _ rfl
          have e6 := (hE.block w2.heap.size (by omega)).trans f4
          exact wpo_load 42 (.tmp 49) rfl _ hh _ (load42 w6 _ _ (blk1 e6 0)) ⟨Below.refl _ _, _, rfl, rfl⟩
        | 4, hi =>
          obtain rfl := Option.some.inj hi
          intro a w6 hE hoth hpre
          exact wpo_fieldAddr 30 (.tmp 3) 1 rfl _ (hoth 3 (by decide)) _ (field30_1 w6 _) ⟨Below.refl _ _, _, rfl, rfl⟩
        | 5, hi =>
          obtain rfl := Option.some.inj hi
          intro a w6 hE hoth hpre
          have hh := hpre { on := 4, ground := .data } (by simp) rfl _ rfl
          have e6 := (hE.block w.heap.size (by omega)).trans e4
          exact wpo_load 24 (.tmp 51) rfl _ hh _ (load24o w6 _ 1 s1 t1 (blk1 e6 1) (blk1 e6 (1 + 1))) ⟨Below.refl _ _, _, rfl, rfl⟩
        | 6, hi =>
          obtain rfl := Option.some.inj hi
          intro a w6 hE hoth hpre
          have hh := hpre { on := 5, ground := .data } (by simp) rfl _ rfl
          refine wpo_call 14 _ _ rfl _ Tryz.func14 (by kernel_rfl) (by kernel_rfl) [.agg #[.string s1, .string t1]] ?_ (fun y w' => y = .agg #[.string s1, .string t1] ∧ Below w6.heap.size w6 w') ?_ ?_
          · have h1' : a.eval (.tmp 52) = .agg #[.string s1, .string t1] := hh
            simp only [List.map_cons, List.map_nil, h1']
          · exact Calls.mono (uid_c s1 t1 w6) (fun e w' h => ⟨_, h.1, rfl, h.2⟩)
          · rintro y w' ⟨rfl, hb⟩
            exact ⟨hb, _, rfl, rfl⟩
        | 7, hi =>
          obtain rfl := Option.some.inj hi
          intro a w6 hE hoth hpre
          exact wpo_fieldAddr 30 (.tmp 3) 2 rfl _ (hoth 3 (by decide)) _ (field30_2 w6 _) ⟨Below.refl _ _, _, rfl, rfl⟩
        | 8, hi =>
          obtain rfl := Option.some.inj hi
          intro a w6 hE hoth hpre
          have hh := hpre { on := 7, ground := .data } (by simp) rfl _ rfl
          have e6 := (hE.block w.heap.size (by omega)).trans e4
          exact wpo_load 24 (.tmp 54) rfl _ hh _ (load24o w6 _ 3 s2 t2 (blk1 e6 3) (blk1 e6 (3 + 1))) ⟨Below.refl _ _, _, rfl, rfl⟩
        | 9, hi =>
          obtain rfl := Option.some.inj hi
          intro a w6 hE hoth hpre
          have hh := hpre { on := 8, ground := .data } (by simp) rfl _ rfl
          refine wpo_call 14 _ _ rfl _ Tryz.func14 (by kernel_rfl) (by kernel_rfl) [.agg #[.string s2, .string t2]] ?_ (fun y w' => y = .agg #[.string s2, .string t2] ∧ Below w6.heap.size w6 w') ?_ ?_
          · have h1' : a.eval (.tmp 55) = .agg #[.string s2, .string t2] := hh
            simp only [List.map_cons, List.map_nil, h1']
          · exact Calls.mono (uid_c s2 t2 w6) (fun e w' h => ⟨_, h.1, rfl, h.2⟩)
          · rintro y w' ⟨rfl, hb⟩
            exact ⟨hb, _, rfl, rfl⟩
        | 10, hi =>
          obtain rfl := Option.some.inj hi
          intro a w6 hE hoth hpre
          exact wpo_fieldAddr 30 (.tmp 3) 3 rfl _ (hoth 3 (by decide)) _ (field30_3 w6 _) ⟨Below.refl _ _, _, rfl, rfl⟩
        | 11, hi =>
          obtain rfl := Option.some.inj hi
          intro a w6 hE hoth hpre
          have hh := hpre { on := 10, ground := .data } (by simp) rfl _ rfl
          have e6 := (hE.block w.heap.size (by omega)).trans e4
          exact wpo_load 24 (.tmp 57) rfl _ hh _ (load24o w6 _ 5 s3 t3 (blk1 e6 5) (blk1 e6 (5 + 1))) ⟨Below.refl _ _, _, rfl, rfl⟩
        | 12, hi =>
          obtain rfl := Option.some.inj hi
          intro a w6 hE hoth hpre
          have hh := hpre { on := 11, ground := .data } (by simp) rfl _ rfl
          refine wpo_call 14 _ _ rfl _ Tryz.func14 (by kernel_rfl) (by kernel_rfl) [.agg #[.string s3, .string t3]] ?_ (fun y w' => y = .agg #[.string s3, .string t3] ∧ Below w6.heap.size w6 w') ?_ ?_
          · have h1' : a.eval (.tmp 58) = .agg #[.string s3, .string t3] := hh
            simp only [List.map_cons, List.map_nil, h1']
          · exact Calls.mono (uid_c s3 t3 w6) (fun e w' h => ⟨_, h.1, rfl, h.2⟩)
          · rintro y w' ⟨rfl, hb⟩
            exact ⟨hb, _, rfl, rfl⟩
        | 13, hi =>
          obtain rfl := Option.some.inj hi
          intro a w6 hE hoth hpre
          have e6 := (hE.block w4.heap.size (by omega)).trans g5
          exact wpo_load 52 (.tmp 12) rfl _ (hoth 12 (by decide)) _ (load52 w6 _ _ _ (blk1 e6 0) (blk1 e6 1)) ⟨Below.refl _ _, _, rfl, rfl⟩
        | 14, hi =>
          obtain rfl := Option.some.inj hi
          intro a w6 hE hoth hpre
          have g0 := hpre { on := 6, ground := .data } (by simp) rfl _ rfl
          have g1 := hpre { on := 9, ground := .data } (by simp) rfl _ rfl
          have g2 := hpre { on := 12, ground := .data } (by simp) rfl _ rfl
          have g3 := hpre { on := 13, ground := .data } (by simp) rfl _ rfl
          exact wpo_build4 69 (.tmp 53) (.tmp 56) (.tmp 59) (.tmp 60) rfl _ _ _ _ g0 g1 g2 g3 _ (build69 w6 _ _ _ _ _ _ _ _) ⟨Below.refl _ _, _, rfl, rfl⟩
        | 15, hi =>
          obtain rfl := Option.some.inj hi
          intro a w6 hE hoth hpre
          have g0 := hpre { on := 1, ground := .data } (by simp) rfl _ rfl
          have g1 := hpre { on := 3, ground := .data } (by simp) rfl _ rfl
          have g2 := hpre { on := 14, ground := .data } (by simp) rfl _ rfl
          refine wpo_call 13 _ _ rfl _ Tryz.func13 (by kernel_rfl) (by kernel_rfl) [.iface 62 (.slice none 0 0), .iface 99 (.map m), .agg #[.string s1, .string t1, .string s2, .string t2, .string s3, .string t3, .map m1, .int .u64 h1']] ?_ (fun y w' => y = .tuple #[.bool false, .agg #[.slice none 0 0, .slice none 0 0]] ∧ Below w6.heap.size w6 w') ?_ ?_
          · have g0' : a.eval (.tmp 48) = _ := g0
            have g1' : a.eval (.tmp 50) = _ := g1
            have g2' : a.eval (.tmp 61) = _ := g2
            simp only [List.map_cons, List.map_nil, g0', g1', g2']
          · exact Calls.mono (auth13 m s1 t1 s2 t2 s3 t3 m1 h1' w6) (fun e w' h => ⟨_, h.1, rfl, h.2⟩)
          · rintro y w' ⟨rfl, hb⟩
            exact ⟨hb, _, rfl, rfl⟩
        | 16, hi =>
          obtain rfl := Option.some.inj hi
          intro a w6 hE hoth hpre
          have hh := hpre { on := 15, ground := .data } (by simp) rfl _ rfl
          exact wpo_move (.tmp 62) rfl _ hh ⟨Below.refl _ _, _, rfl, rfl⟩
        | 17, hi =>
          obtain rfl := Option.some.inj hi
          intro a w6 hE hoth hpre
          have hh := hpre { on := 16, ground := .data } (by simp) rfl _ rfl
          exact wpo_extract (.tmp 46) 0 rfl _ (.bool false) hh rfl ⟨Below.refl _ _, _, rfl, rfl⟩
        | 18, hi =>
          obtain rfl := Option.some.inj hi
          intro a w6 hE hoth hpre
          have hh := hpre { on := 16, ground := .data } (by simp) rfl _ rfl
          exact wpo_extract (.tmp 46) 1 rfl _ (.agg #[.slice none 0 0, .slice none 0 0]) hh rfl ⟨Below.refl _ _, _, rfl, rfl⟩
        | 19, hi =>
          obtain rfl := Option.some.inj hi
          intro a w6 hE hoth hpre
          exact wpo_alloc 59 rfl (.pointer (some ⟨w6.heap.size, 0, none⟩)) (w6.alloc (.cells #[.slice none 0 0, .slice none 0 0] 59)) (by kernel_rfl) ⟨below_refl_alloc _ _, _, rfl, w6.heap.size, rfl, by have := hE.size; omega, heap_alloc_new _ _⟩
        | 20, hi =>
          obtain rfl := Option.some.inj hi
          intro a w6 hE hoth hpre
          have hh := hpre { on := 17, ground := .data } (by simp) rfl _ rfl
          exact wpo_assign (.tmp 63) rfl _ hh ⟨Below.refl _ _, _, rfl, rfl⟩
        | i + 21, hi => omega
      case last =>
        intro listed a w6 hF hl
        have g18 : a.tmps.getD 64 undef = .agg #[.slice none 0 0, .slice none 0 0] := hF.facts 18 _ rfl (hl 18 (by omega))
        have g20 : a.tmps.getD 14 undef = .bool false := hF.facts 20 _ rfl (hl 20 (by omega))
        have g19 : ΦZ w.heap.size w2.heap.size m s1 t1 s2 t2 s3 t3 m1 h1' 19 (a.tmps.getD 15 undef) w6 := hF.facts 19 _ rfl (hl 19 (by omega))
        obtain ⟨q, g15, hq, hqr⟩ := g19
        have hE6 := hF.ext
        refine wpo_store 59 (.tmp 15) (.tmp 64) rfl _ g15 _ g18 _ (store59 w6 _ hqr) ?_
        have hh := setCell_here (o := 1) (setCell_here (o := 0) hqr (.slice none 0 0)) (.slice none 0 0)
        have b7 : Below w.heap.size w ((w6.setCell ⟨q, 0, none⟩ (.slice none 0 0)).setCell ⟨q, 1, none⟩ (.slice none 0 0)) := ((bo5.trans (hE6.mono (by omega))).setCell (by show w.heap.size ≤ q; omega) _).setCell (by show w.heap.size ≤ q; omega) _
        generalize ((w6.setCell ⟨q, 0, none⟩ (.slice none 0 0)).setCell ⟨q, 1, none⟩ (.slice none 0 0)) = Wf at hh b7 ⊢
        obtain ⟨vs, rfl, hvs⟩ := frame2 hF
        have v14 := (hvs 14).trans g20
        have v15 := (hvs 15).trans g15
        clear hF hl g18 g20 g15 hE6 hvs hqr bo5 e4 f4 g5
        rw [show dstsOf _ = [47, 48, 49, 50, 51, 52, 53, 54, 55, 56, 57, 58, 59, 60, 61, 62, 46, 63, 64, 15, 14] from rfl]
        simp (config := { decide := true }) only [List.mapIdx_toArray, List.mapIdx_cons, List.mapIdx_nil, Nat.zero_add, Nat.reduceAdd, if_true, if_false, Act.put, v14, v15]
        have c0 := blk1 hh 0
        have c1 := blk1 hh 1
        go_wp2_with fail
        go_loopw [5, 68] (fun o i wr => o = .slice none 0 0 ∧ i = .int .i64 0 ∧ wr = Wf) (fun _ i _ => 0)
        case atStart => exact ⟨rfl, rfl, rfl⟩
        case round =>
          obtain ⟨rfl, rfl, rfl⟩ := hrel
          go_wp2_with fail
          go_loopw [6, 82] (fun o i wr' => o = .slice none 0 0 ∧ i = .int .i64 0 ∧ wr' = wr) (fun _ i _ => 0)
          case atStart => exact ⟨rfl, rfl, rfl⟩
          case round =>
            obtain ⟨rfl, rfl, rfl⟩ := hrel
            go_wp2
            try simp only [Exit.inBlock, Exit.then]
            refine bodyPost_ret (results_tmp4 (t := 4) (u := 5) (v := 6) (x := 7) (by kernel_rfl) _ _ _) rfl ?_
            exact ⟨rfl, b7⟩
end Go.Proofs.Exp
