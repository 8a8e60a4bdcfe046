/- Part of the proof of FnAuthorizeNone: without policies no request is allowed; for every world that comes in. -/
import Derived.Test.YtaigmemiklfjoaaGreatDoorZExG
set_option linter.unusedSimpArgs false
set_option linter.unusedVariables false
set_option linter.unnecessarySimpa false
namespace Go.Proofs.Exp
open Go.RowKit
set_option linter.unusedVariables false
attribute [local go_sem] Oper.semAt_some
def RecPost (es : Array MapEntry) (clock : Nat) (w : World) (e : Ending) (w' : World) : Prop :=
  ∃ m h, e = .returned (.agg #[.map (some m), .int .u64 h]) ∧ Below w.heap.size w w' ∧ w.heap.size ≤ m ∧ m < w'.heap.size ∧ w'.heap[m]? = some (.map es clock)
theorem run_neq_map_nil (w : World) (t k e : TypeId) (p : Option Nat) (h : Tryz.prog.underlying t = some (.map k e)) :
    (binOp .neq t (.map p) (.map none)).run Tryz.prog w = .ok (.bool !p.isNone) w := by
  simp only [binOp]
  simp [show Op.equal t (.map p) (.map none) = Op.equalIn (9999 + 1) t (.map p) (.map none) from rfl, run_equalIn_map_nil_sl w 9999 t k e p h]
theorem cell8_kept {w w' : World} {H g : Nat} (hE : ExG 259 H w w') (h1 : g ≠ H) (h2 : g < w.heap.size) (i : Nat) : w'.cell? ⟨g, i, none⟩ = w.cell? ⟨g, i, none⟩ := by
  unfold World.cell?; rw [show (⟨g, i, none⟩ : Addr).block = g from rfl, hE.other g h1 h2]
/-- What region 10 of NewRecord leaves. -/
def Φ10 (b H B0 : Nat) (w0 : World) (key : ByteArray) (i : Nat) (u : Value) (W' : World) : Prop :=
  match i with
  | 0 => u = .iface 260 (.pointer (some ⟨H, 0, none⟩))
  | 1 => u = .agg #[]
  | 2 => u = .map (some b)
  | 3 => u = .string key
  | 4 => IsVal w0 B0 u
  | 5 => ∃ x : Int, u = .int .u64 x
  | 6 => ∃ (g cap : Nat) (bs : Nat → Int), u = .slice (some ⟨g, 0, none⟩) 8 cap ∧ H < g ∧ g < W'.heap.size ∧ ∀ i, i < 8 → W'.cell? ⟨g, i, none⟩ = some (.int .u8 (bs i))
  | 7 => u = .func (.method "Write") #[.iface 260 (.pointer (some ⟨H, 0, none⟩))] #[]
  | 9 => u = .iface 260 (.pointer (some ⟨H, 0, none⟩))
  | 10 => ∃ n : Nat, u = .tuple #[.int .i64 n, .nilIface]
  | 11 => ∃ n : Nat, u = .tuple #[.int .i64 n, .nilIface]
  | _ => True
theorem Φ10.kept {b H B0 : Nat} {w0 : World} {key : ByteArray} {i : Nat} {u : Value} {w1 w2 : World} (hE : ExG 259 H w1 w2) (h : Φ10 b H B0 w0 key i u w1) : Φ10 b H B0 w0 key i u w2 := by
  unfold Φ10 at h ⊢
  split <;> first | exact trivial | exact h | skip
  obtain ⟨g, cap, bs, h1, h2, h3, h4⟩ := h
  exact ⟨g, cap, bs, h1, h2, Nat.lt_of_lt_of_le h3 hE.size, fun i hi => (cell8_kept hE (by omega) h3 i).trans (h4 i hi)⟩
set_option maxRecDepth 20000 in
theorem rec_end {es : Array MapEntry} {clock : Nat} {w W9 : World} {m : Nat} {x : Int} (r9 : W9.heap[w.heap.size]? = some (.cells #[.map none, .int .u64 0] 52 (0, 0))) (h1 : w.heap.size < m) (h2 : m < W9.heap.size) (m9 : W9.heap[m]? = some (.map es clock)) (hb : Below w.heap.size w W9)
    (a : Act) (ha : a.tmps.getD 2 undef = .pointer (some ⟨w.heap.size, 0, none⟩)) (had : a.defers = []) :
    bodyPost Tryz.prog Tryz.f25 (RecPost es clock w) Exit.ret a ((W9.setCell ⟨w.heap.size, 0, none⟩ (.map (some m))).setCell ⟨w.heap.size, 1, none⟩ (.int .u64 x)) := by
  have hh := setCell_here (o := 1) (setCell_here (o := 0) r9 (.map (some m))) (.int .u64 x)
  have hb2 : Below w.heap.size w ((W9.setCell ⟨w.heap.size, 0, none⟩ (.map (some m))).setCell ⟨w.heap.size, 1, none⟩ (.int .u64 x)) := (hb.setCell (Nat.le_refl _) _).setCell (Nat.le_refl _) _
  refine bodyPost_ret (results_cell (a := 2) (t := 52) (by kernel_rfl) _ ⟨w.heap.size, 0, none⟩ ha _ _ (load2 _ _ _ _ (by kernel_rfl) (by kernel_rfl) (blk1 hh 0) (blk1 hh 1))) had ?_
  refine ⟨m, x, rfl, hb2, by omega, by simpa using h2, ?_⟩
  rw [Below.heap_setCell _ _ _ _ (by show m ≠ w.heap.size; omega), Below.heap_setCell _ _ _ _ (by show m ≠ w.heap.size; omega)]
  exact m9
set_option maxRecDepth 20000 in
set_option maxHeartbeats 1600000 in
theorem newrec (b n : Nat) (w : World) (es : Array MapEntry) (clock : Nat) (hes : w.heap[b]? = some (.map es clock)) (hm : OwnM w b (IsVal w w.heap.size) n) (hn : n ≤ 8796093022080) :
    Calls Tryz.prog 25 #[.map (some b)] w (RecPost es clock w) := by
  have hbl := hm.2.lt
  have hne := fun w => run_neq_map_nil w 49 64 44 (some b) u49T
  simp only [Option.isNone_some, Bool.not_false] at hne
  go_enter Tryz.func25, Tryz.ntmps25
  go_wp2_with ((with_reducible show wpList _ _ _ ({ dst := _, op := Op.call { callee := Callee.builtin Builtin.len, args := #[Operand.tmp 8], argTypes := #[49] }, type := _, pos := _, after := _, guard := _ } :: _) _ _); refine wpList_lenm rfl _ 49 rfl 64 44 u49T (some b) rfl es.size (.inr ⟨b, es, clock, rfl, (Below.heap_alloc _ _ b hbl).trans hes, rfl⟩) ?_)
  · refine (keys56 _ _).mono ?_
    rintro e w2 ⟨rfl, rfl⟩
    obtain ⟨W1, hW1⟩ : ∃ W1, w.alloc (.cells #[.map none, .int .u64 0] 52) = W1 := ⟨_, rfl⟩
    rw [hW1]
    have b1 : Below w.heap.size w W1 := by rw [← hW1]; exact below_refl_alloc w _
    have s1 : W1.heap.size = w.heap.size + 1 := by rw [← hW1]; simp
    have r1 : W1.heap[w.heap.size]? = some (.cells #[.map none, .int .u64 0] 52 (0, 0)) := by rw [← hW1]; exact heap_alloc_new w _
    clear hW1
    have hes1 : W1.heap[b]? = some (.map es clock) := (b1.block _ hbl).trans hes
    have hm1 := hm.below b1 hbl
    go_wp2_with fail
    have hcol := collect55 b n _ W1 es clock hes1 hm1 hn
    rw [s1] at hcol
    refine hcol.mono ?_
    clear hcol
    rintro e w2 ⟨v, ss, rfl, hk, hssn, hrow, hb2⟩
    go_wp2_with fail
    have b2 : Below w.heap.size w w2 := (b1.alloc (by omega) _).trans (hb2.mono (by omega))
    have s2 : w.heap.size + 2 ≤ w2.heap.size := by have := hb2.size; simp [s1] at this; omega
    refine (sort57 (w.heap.size + 1 + 1) es v ss w2 hrow hk (by omega) (by omega)).mono ?_
    rintro e w3 ⟨rfl, hkr, hb3⟩
    have b3 : Below w.heap.size w w3 := b2.trans (hb3.mono (by omega))
    have s3 : w.heap.size + 2 ≤ w3.heap.size := by have := hb3.size; omega
    have r3 : w3.heap[w.heap.size]? = some (.cells #[.map none, .int .u64 0] 52 (0, 0)) := by
      rw [hb3.block _ (by omega), hb2.block _ (by omega)]; rw [Below.heap_alloc _ _ _ (by omega)]; exact r1
    have hes3 : w3.heap[b]? = some (.map es clock) := (b3.block _ hbl).trans hes
    clear b1 r1 hes1 hm1 hrow hb2 b2 s2 hb3 s1 W1
    go_wp2_with fail
    refine (fnv_new _).mono ?_
    rintro e w4 ⟨rfl, rfl⟩
    generalize hN : (14695981039346656037 : Int) = N
    clear hN
    obtain ⟨W4, hW4⟩ : ∃ W4, w3.alloc (.cells #[.int .u64 N] 259) = W4 := ⟨_, rfl⟩
    rw [hW4]
    have hx4 : HasG 259 W4 w3.heap.size := ⟨N, by rw [← hW4]; exact heap_alloc_new w3 _⟩
    have b4 : Below w3.heap.size w3 W4 := by rw [← hW4]; exact below_refl_alloc w3 _
    have s4 : W4.heap.size = w3.heap.size + 1 := by rw [← hW4]; simp
    clear hW4
    obtain ⟨p, cap, ks, g, rfl, hpg, hpk⟩ : ∃ (p : Option Addr) (cap : Nat) (ks : Nat → ByteArray) (g : Nat), v = .slice p ss.length cap ∧ (0 < ss.length → p = some ⟨g, 0, none⟩ ∧ w.heap.size < g ∧ g < w3.heap.size) ∧
        (∀ i, i < ss.length → w3.cell? ⟨g, i, none⟩ = some (.string (ks i)) ∧ ∃ en ∈ es.toList, en.key = .string (ks i)) := by
      rcases hkr with ⟨rfl, hz⟩ | ⟨g, cap, ks, rfl, h1, h2, h3⟩
      · exact ⟨none, 0, fun _ => ⟨#[]⟩, 0, by rw [hz], fun h => by omega, fun i hi => by omega⟩
      · exact ⟨_, cap, ks, g, rfl, fun _ => ⟨rfl, by omega, h2⟩, h3⟩
    clear hkr hk
    generalize ss.length = m at *
    go_wp2_with fail
    go_loopw [19] (fun i wr => ∃ k : Nat, k ≤ m ∧ i = .int .i64 k ∧ ExG 259 w3.heap.size W4 wr) (fun i _ => m - (intOf i).toNat)
    case atStart => exact ⟨0, by omega, rfl, ExG.refl _ _⟩
    case round =>
      obtain ⟨wo, rfl⟩ : ∃ wo : World, wo = wr := ⟨_, rfl⟩
      obtain ⟨k, hkm, rfl, hE⟩ := hrel
      by_cases hlt : k < m
      · obtain ⟨rfl, hg1, hg2⟩ := hpg (by omega)
        obtain ⟨hck, en, hen, hek⟩ := hpk k hlt
        have hbk : (ks k).size ≤ 140737488351232 := by
          obtain ⟨es', clock', h1, h2, h3⟩ := hm.2
          rw [hes] at h1; cases h1
          obtain ⟨s, h4, h5⟩ := (h3 en hen).2.1
          rw [hek] at h4; cases h4; exact h5
        have hcw : wo.cell? ⟨g, k, none⟩ = some (.string (ks k)) := by
          have h1 : wo.heap[g]? = w3.heap[g]? := (hE.other g (by omega) (by omega)).trans (b4.block g (by omega))
          have : wo.cell? ⟨g, k, none⟩ = w3.cell? ⟨g, k, none⟩ := by unfold World.cell?; rw [show (⟨g, k, none⟩ : Addr).block = g from rfl, h1]
          rw [this]; exact hck
        generalize ks k = key at *
        clear hpg hpk hck
        have hxo := hE.cell hx4
        go_wp2_with ((with_reducible show wpList _ _ _ ({ dst := _, op := Op.convert _ _ _, type := _, pos := _, after := _, guard := _ } :: _) _ _); refine wpList_str_bytes rfl 64 199 5 _ rfl u64T u199T u5T key rfl ?_)
        intro w5 cap5 hsz5 hb5 hc5
        have hE5 := ExG.trans _ _ _ hE (ExG.below hb5)
        obtain ⟨x5, hx5⟩ := hE5.cell hx4
        have hp5 : w5.cell? ⟨w3.heap.size, 0, none⟩ = some (.int .u64 x5) := (cell_at hx5).trans rfl
        have hf5 : w5.frozen? ⟨w3.heap.size, 0, none⟩ = false := by simp [World.frozen?, hx5]
        have hmw := m_write ⟨w3.heap.size, 0, none⟩
        go_wp2_with (go_at_call 360; refine (fnv_write _ _ 0 _ cap5 (fun i => ((key.data[i]?.getD 0).toNat : Int)) x5 _ hbk hp5 hf5 (fun i hi => by simpa using hc5 i hi)).mono ?_; rintro e w6 ⟨h6, rfl, rfl⟩)
        have hE6 := ExG.trans _ _ _ hE5 (ExG.set ⟨x5, hx5⟩ h6).1
        generalize w5.setCell ⟨w3.heap.size, 0, none⟩ (.int .u64 h6) = W6 at hE6 ⊢
        clear hE hxo hcw hb5 hc5 hE5 hp5 hf5 hx5
        have hv : ∀ e ∈ es.toList, KS e.key ∧ IsVal w w.heap.size e.val := by
          obtain ⟨es', clock', h1, h2, h3⟩ := hm.2
          rw [hes] at h1; cases h1
          exact fun e he => (h3 e he).2
        have hbH : b ≠ w3.heap.size := by omega
        have hes6 : W6.heap[b]? = some (.map es clock) := (hE6.other b hbH (by omega)).trans ((b4.block b (by omega)).trans hes3)
        have hx6 := hE6.cell hx4
        have hH6 : w3.heap.size < W6.heap.size := by obtain ⟨x, hx⟩ := hx6; exact (Array.getElem?_eq_some_iff.1 hx).1
        have hb6 : b < W6.heap.size := by omega
        clear hes hm hne hes3
        refine wp_region_F (by kernel_rfl) (by kernel_rfl) (ExG 259 w3.heap.size) (Φ10 b w3.heap.size w.heap.size w key) ?e0 ExG.trans ?hphi ?hop ?done
        case e0 => exact ExG.below ((Below.refl _ _).drew)
        case hphi => intro j u w1 w2 hE h; exact h.kept hE
        case hop =>
          intro i o hi
          match i, hi with
          | 0, hi =>
            obtain rfl := Option.some.inj hi
            intro a w2 hE hoth hpre
            exact wpo_move (.tmp 5) rfl _ (hoth 5 (by decide)) ⟨ExG.refl _ _, _, rfl, rfl⟩
          | 1, hi =>
            obtain rfl := Option.some.inj hi
            intro a w2 hE hoth hpre
            exact wpo_load 201 (.global 0) rfl _ rfl (.agg #[]) (load201 w2 _) ⟨ExG.refl _ _, _, rfl, rfl⟩
          | 2, hi =>
            obtain rfl := Option.some.inj hi
            intro a w2 hE hoth hpre
            exact wpo_move (.tmp 0) rfl _ (hoth 0 (by decide)) ⟨ExG.refl _ _, _, rfl, rfl⟩
          | 3, hi =>
            obtain rfl := Option.some.inj hi
            intro a w2 hE hoth hpre
            exact wpo_move (.tmp 7) rfl _ (hoth 7 (by decide)) ⟨ExG.refl _ _, _, rfl, rfl⟩
          | 4, hi =>
            obtain rfl := Option.some.inj hi
            intro a w2 hE hoth hpre
            have h1 := hpre { on := 2, ground := .data } (by simp) rfl _ rfl
            have h2 := hpre { on := 3, ground := .data } (by simp) rfl _ rfl
            have hes2 : w2.heap[b]? = some (.map es clock) := (hE.other b hbH hb6).trans hes6
            refine wpo_look 49 (.tmp 33) (.tmp 34) rfl 64 44 .string u49T u64T (.inl rfl) .nilIface z44 b h1 (.string key) h2 es clock hes2 (fun e he => pk_KS key e.key (hv e he).1) ?_ ?_
            · intro e he hek
              exact ⟨ExG.refl _ _, _, rfl, (hv e he).2⟩
            · intro hno
              exact absurd hek (hno en hen)
          | 5, hi =>
            obtain rfl := Option.some.inj hi
            intro a w2 hE hoth hpre
            have h1 := hpre { on := 4, ground := .data } (by simp) rfl _ rfl
            refine wpo_inv (.tmp 35) HK _ _ rfl _ rfl [] rfl _ (hash_any h1 w2) ?_
            rintro y w3 ⟨x, rfl, hb3⟩
            exact ⟨ExG.below hb3, _, rfl, x, rfl⟩
          | 6, hi =>
            obtain rfl := Option.some.inj hi
            intro a w2 hE hoth hpre
            have h1 := hpre { on := 1, ground := .data } (by simp) rfl _ rfl
            obtain ⟨x, h2⟩ := hpre { on := 5, ground := .data } (by simp) rfl _ rfl
            refine wpo_call 59 _ _ rfl _ Tryz.func59 (by kernel_rfl) (by kernel_rfl) [.agg #[], .slice none 0 0, .int .u64 x] ?_ (fun y w' => ∃ (g cap : Nat) (bs : Nat → Int), y = .slice (some ⟨g, 0, none⟩) 8 cap ∧ w2.heap.size ≤ g ∧ g < w'.heap.size ∧ Below w2.heap.size w2 w' ∧ ∀ i, i < 8 → w'.cell? ⟨g, i, none⟩ = some (.int .u8 (bs i))) ?_ ?_
            · have h1' : a.eval (.tmp 32) = .agg #[] := h1
              have h2' : a.eval (.tmp 36) = .int .u64 x := h2
              simp only [List.map_cons, List.map_nil, h1', h2']
              rfl
            · refine Calls.mono (app64 x w2) ?_
              rintro e w' ⟨g, cap, bs, rfl, h3, h4, h5, h6⟩
              exact ⟨_, rfl, g, cap, bs, rfl, h3, h4, h5, h6⟩
            · rintro y w' ⟨g, cap, bs, rfl, h3, h4, h5, h6⟩
              have := hE.size
              exact ⟨ExG.below h5, _, rfl, g, cap, bs, rfl, by omega, h4, h6⟩
          | 7, hi =>
            obtain rfl := Option.some.inj hi
            intro a w2 hE hoth hpre
            have h1 := hpre { on := 0, ground := .data } (by simp) rfl _ rfl
            exact wpo_makeFunc _ (.tmp 31) rfl _ h1 ⟨ExG.refl _ _, _, rfl, rfl⟩
          | 8, hi =>
            obtain rfl := Option.some.inj hi
            intro a w2 hE hoth hpre
            have h1 := hpre { on := 7, ground := .data } (by simp) rfl _ rfl
            exact wpo_nilCheck_method (.tmp 38) rfl _ _ _ h1 (ahead_write _ _) ⟨ExG.refl _ _, _, rfl, trivial⟩
          | 9, hi =>
            obtain rfl := Option.some.inj hi
            intro a w2 hE hoth hpre
            have h1 := hpre { on := 0, ground := .data } (by simp) rfl _ rfl
            exact wpo_move (.tmp 31) rfl _ h1 ⟨ExG.refl _ _, _, rfl, rfl⟩
          | 10, hi =>
            obtain rfl := Option.some.inj hi
            intro a w2 hE hoth hpre
            have h1 := hpre { on := 9, ground := .data } (by simp) rfl _ rfl
            obtain ⟨g8, cap8, bs8, h2, h3, h4, h5⟩ := hpre { on := 6, ground := .data } (by simp) rfl _ rfl
            obtain ⟨x2, hx2⟩ := hE.cell hx6
            have hp2 : w2.cell? ⟨w3.heap.size, 0, none⟩ = some (.int .u64 x2) := (cell_at hx2).trans rfl
            have hf2 : w2.frozen? ⟨w3.heap.size, 0, none⟩ = false := by simp [World.frozen?, hx2]
            have hfw := fnv_write ⟨w3.heap.size, 0, none⟩ g8 0 8 cap8 bs8 x2 w2 (by omega) hp2 hf2 (fun i hi => by simpa using h5 i hi)
            refine wpo_inv (.tmp 40) "Write" _ _ rfl _ h1 [.slice (some ⟨g8, 0, none⟩) 8 cap8] ?_ (fun y w' => (∃ n : Nat, y = .tuple #[.int .i64 n, .nilIface]) ∧ ExG 259 w3.heap.size w2 w') ?_ ?_
            · have h2' : a.eval (.tmp 37) = .slice (some ⟨g8, 0, none⟩) 8 cap8 := h2
              simp only [List.map_cons, List.map_nil, h2']
            · refine ⟨260, _, 360, _, Tryz.f360, rfl, m_write _ w2, Tryz.func360, by kernel_rfl, by kernel_rfl, ?_⟩
              refine Calls.mono hfw ?_
              rintro e w' ⟨h', rfl, rfl⟩
              exact ⟨_, rfl, ⟨8, rfl⟩, (ExG.set ⟨x2, hx2⟩ h').1⟩
            · rintro y w' ⟨⟨n, rfl⟩, h6⟩
              exact ⟨h6, _, rfl, n, rfl⟩
          | 11, hi =>
            obtain rfl := Option.some.inj hi
            intro a w2 hE hoth hpre
            obtain ⟨n, h1⟩ := hpre { on := 10, ground := .data } (by simp) rfl _ rfl
            exact wpo_move (.tmp 41) rfl _ h1 ⟨ExG.refl _ _, _, rfl, n, rfl⟩
          | 12, hi =>
            obtain rfl := Option.some.inj hi
            intro a w2 hE hoth hpre
            obtain ⟨n, h1⟩ := hpre { on := 11, ground := .data } (by simp) rfl _ rfl
            exact wpo_extract (.tmp 30) 0 rfl _ (.int .i64 n) h1 rfl ⟨ExG.refl _ _, _, rfl, trivial⟩
          | 13, hi =>
            obtain rfl := Option.some.inj hi
            intro a w2 hE hoth hpre
            obtain ⟨n, h1⟩ := hpre { on := 11, ground := .data } (by simp) rfl _ rfl
            exact wpo_extract (.tmp 30) 1 rfl _ .nilIface h1 rfl ⟨ExG.refl _ _, _, rfl, trivial⟩
          | i + 14, hi => simp at hi
        case done =>
          intro a1 W2 hF
          have hE2 := ExG.trans _ _ _ hE6 hF.ext
          obtain ⟨vs, rfl, _⟩ := hF.frame
          clear hF
          rw [show dstsOf _ = [31, 32, 33, 34, 35, 36, 37, 38, 39, 40, 41, 30, 42, 43] from rfl]
          simp (config := { decide := true }) only [List.mapIdx_toArray, List.mapIdx_cons, List.mapIdx_nil, Nat.zero_add, Nat.reduceAdd, if_true, if_false]
          go_wp2
          go_roundw
          case rel => exact ⟨k + 1, by omega, by go_num, hE2⟩
          case measure => simp [intOf]; omega
      · obtain ⟨x, hx⟩ := hE.cell hx4
        have hp : wo.cell? ⟨w3.heap.size, 0, none⟩ = some (.int .u64 x) := (cell_at hx).trans rfl
        have hms := m_sum ⟨w3.heap.size, 0, none⟩
        have hesW : wo.heap[b]? = some (.map es clock) := (hE.other b (by omega) (by omega)).trans ((b4.block b (by omega)).trans hes3)
        have rW : wo.heap[w.heap.size]? = some (.cells #[.map none, .int .u64 0] 52 (0, 0)) := (hE.other _ (by omega) (by omega)).trans ((b4.block _ (by omega)).trans r3)
        have bW : Below w.heap.size w wo := b3.trans ((b4.mono (by omega)).trans (hE.toBelow (by omega) (by omega)))
        have hmW := hm.2.below bW hbl
        have sW : w.heap.size + 2 ≤ wo.heap.size := by have := bW.size; have := hE.size; omega
        clear hE hx4 b4 s4 r3 hes3 hx hm hpg hpk
        go_wp2_with fail
        refine (fnv_sum _ x _ hp).mono ?_
        rintro e w9 ⟨rfl, rfl⟩
        obtain ⟨wo, rfl⟩ : ∃ wo : World, wo = w9 := ⟨_, rfl⟩
        go_wp2_with fail
        refine (clone60 b es clock _ hesW).mono ?_
        rintro e w9 ⟨rfl, rfl⟩
        obtain ⟨W9, hW9⟩ : ∃ W9, wo.alloc (.map es clock) = W9 := ⟨_, rfl⟩
        rw [hW9]
        have b9 : Below wo.heap.size wo W9 := by rw [← hW9]; exact below_refl_alloc wo _
        have s9 : W9.heap.size = wo.heap.size + 1 := by rw [← hW9]; simp
        have n9 : W9.heap[wo.heap.size]? = some (.map es clock) := by rw [← hW9]; exact heap_alloc_new wo _
        clear hW9
        have r9 := (b9.block w.heap.size (by omega)).trans rW
        have c0 := blk1 r9 0
        have c1 := blk1 r9 1
        have f0 : W9.frozen? ⟨w.heap.size, 0, none⟩ = false := by simp [World.frozen?, r9]
        have f1 : W9.frozen? ⟨w.heap.size, 1, none⟩ = false := by simp [World.frozen?, r9]
        have hbW9 : Below w.heap.size w W9 := bW.trans (b9.mono (by omega))
        clear hesW rW bW hmW b9
        go_wp2
        try simp only [Exit.inBlock, Exit.then]
        exact rec_end r9 (by omega) (by omega) n9 hbW9 _ rfl rfl
  · refine (clone60 b es clock _ ((Below.heap_alloc _ _ b hbl).trans hes)).mono ?_
    rintro e w9 ⟨rfl, rfl⟩
    obtain ⟨wo, hwo⟩ : ∃ wo, w.alloc (.cells #[.map none, .int .u64 0] 52) = wo := ⟨_, rfl⟩
    rw [hwo]
    have bW : Below w.heap.size w wo := by rw [← hwo]; exact below_refl_alloc w _
    have sW : w.heap.size + 1 ≤ wo.heap.size := by rw [← hwo]; simp
    have rW : wo.heap[w.heap.size]? = some (.cells #[.map none, .int .u64 0] 52 (0, 0)) := by rw [← hwo]; exact heap_alloc_new w _
    clear hwo
    have hesW : wo.heap[b]? = some (.map es clock) := (bW.block _ hbl).trans hes
    have hmW := hm.2.below bW hbl
    clear hm
    obtain ⟨W9, hW9⟩ : ∃ W9, wo.alloc (.map es clock) = W9 := ⟨_, rfl⟩
    rw [hW9]
    have b9 : Below wo.heap.size wo W9 := by rw [← hW9]; exact below_refl_alloc wo _
    have s9 : W9.heap.size = wo.heap.size + 1 := by rw [← hW9]; simp
    have n9 : W9.heap[wo.heap.size]? = some (.map es clock) := by rw [← hW9]; exact heap_alloc_new wo _
    clear hW9
    have r9 := (b9.block w.heap.size (by omega)).trans rW
    have c0 := blk1 r9 0
    have c1 := blk1 r9 1
    have f0 : W9.frozen? ⟨w.heap.size, 0, none⟩ = false := by simp [World.frozen?, r9]
    have f1 : W9.frozen? ⟨w.heap.size, 1, none⟩ = false := by simp [World.frozen?, r9]
    have hbW9 : Below w.heap.size w W9 := bW.trans (b9.mono (by omega))
    clear hesW rW bW hmW b9
    go_wp2
    try simp only [Exit.inBlock, Exit.then]
    exact rec_end r9 (by omega) (by omega) n9 hbW9 _ rfl rfl
end Go.Proofs.Exp
