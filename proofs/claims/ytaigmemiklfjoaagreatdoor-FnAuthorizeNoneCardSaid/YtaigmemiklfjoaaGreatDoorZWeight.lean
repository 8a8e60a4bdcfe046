/- Part of the proof of FnAuthorizeNone: without policies no request is allowed; for every world that comes in. -/
import Derived.Test.YtaigmemiklfjoaaGreatDoorZGood
set_option linter.unusedSimpArgs false
set_option linter.unusedVariables false
set_option linter.unnecessarySimpa false
namespace Go.Proofs.Exp
open Go.RowKit
set_option linter.unusedVariables false
attribute [local go_sem] Oper.semAt_some
def IPost (w : World) (e : Ending) (w' : World) : Prop := (∃ r : Int, e = .returned (.int .i64 r)) ∧ Below w.heap.size w w'
def WtOK (w0 : World) (B : Nat) (v : Value) : Prop := ∀ (left : Int) w, Below B w0 w → B ≤ w.heap.size → Calls Tryz.prog 20 #[v, .int .i64 left] w (IPost w)
set_option maxRecDepth 20000 in
set_option maxHeartbeats 1600000 in
theorem names31 (w0 : World) (B n c : Nat) (p : Option Addr) (ks : Nat → ByteArray) (hkr : TextRow w0 B n p ks) (left : Int) (w : World) (hw : Below B w0 w) :
    Calls Tryz.prog 31 #[.slice p n c, .int .i64 left] w (IPost w) := by
  obtain ⟨hn, b, off, hp, hc⟩ := hkr
  go_enter Tryz.func31, Tryz.ntmps31
  go_wp2
  · go_ret
    exact ⟨⟨_, rfl⟩, Below.refl _ _⟩
  · go_loop [1, 5] (fun l i => ∃ k : Nat, ∃ x : Int, k ≤ n ∧ l = .int .i64 x ∧ i = .int .i64 k) (fun _ i => n - (intOf i).toNat)
    case atStart => exact ⟨0, _, by omega, rfl, rfl⟩
    case round =>
      obtain ⟨k, x, hk, rfl, rfl⟩ := hrel
      by_cases hlt : k < n
      · obtain ⟨rfl, hbB⟩ := hp (by omega)
        have hck := (hw.cell (p := ⟨b, off + k, none⟩) hbB).trans (hc k hlt).1
        clear hp hc
        go_wp2
        · go_ret; exact ⟨⟨_, rfl⟩, Below.refl _ _⟩
        · go_round
          case rel => exact ⟨k + 1, _, by omega, rfl, by go_num⟩
          case measure => simp [intOf]; omega
        · go_ret; exact ⟨⟨_, rfl⟩, Below.refl _ _⟩
      · clear hp hc
        go_wp2
        all_goals first | (go_ret; exact ⟨⟨_, rfl⟩, Below.refl _ _⟩) | skip
theorem uidw19 (s t : ByteArray) (left : Int) (w : World) : Calls Tryz.prog 19 #[.agg #[.string s, .string t], .int .i64 left] w (IPost w) := by
  go_enter Tryz.func19, Tryz.ntmps19
  go_wp2
  all_goals go_ret
  all_goals exact ⟨⟨_, rfl⟩, below_refl_alloc w _⟩
end Go.Proofs.Exp
namespace Go.Proofs.Exp
open Go.RowKit
set_option linter.unusedVariables false
attribute [local go_sem] Oper.semAt_some
set_option maxRecDepth 20000 in
set_option maxHeartbeats 1600000 in
theorem valw20 (w0 : World) (B : Nat) (kd n : Int) (s t : ByteArray) (pk : Option Addr) (nk ck : Nat) (pl : Option Addr) (nl cl : Nat) (ks : Nat → ByteArray) (el : Nat → Value) (hk : TextRow w0 B nk pk ks) (hl : SixRow w0 B nl pl el) (hok : ∀ i, i < nl → WtOK w0 B (el i)) :
    WtOK w0 B (.agg #[.int .i64 kd, .int .i64 n, .string s, .string t, .slice pk nk ck, .slice pl nl cl]) := by
  intro left w hw hB
  obtain ⟨hn, b, off, hp, hc⟩ := hl
  have hb0 : ∀ o, Below B w0 (w.alloc o) := fun o => hw.trans ((below_refl_alloc w o).mono hB)
  have hnm := fun l o => names31 w0 B nk ck pk ks hk l (w.alloc o) (hb0 o)
  go_enter Tryz.func20, Tryz.ntmps20
  go_wp2_with (go_at_call 31; refine (hnm _ _).mono ?_; rintro e w2 ⟨⟨r, rfl⟩, hb2⟩)
  all_goals first | (go_ret; exact ⟨⟨_, rfl⟩, below_refl_alloc w _⟩) | skip
  have e2 : w2.heap[w.heap.size]? = some (.cells #[.int .i64 kd, .int .i64 n, .string s, .string t, .slice pk nk ck, .slice pl nl cl] 28 (0, 0)) := (hb2.block _ (by simp)).trans (heap_alloc_new w _)
  have bo2 : Below w.heap.size w w2 := (below_refl_alloc w _).trans (hb2.mono (by simp))
  have z2 : w.heap.size < w2.heap.size := by have := hb2.size; simp at this; omega
  clear hb2 hnm hb0
  go_loopw [1, 5] (fun l i wr => ∃ (k : Nat) (x : Int), k ≤ nl ∧ l = .int .i64 x ∧ i = .int .i64 k ∧ Below (w.heap.size + 1) w2 wr) (fun _ i _ => nl - (intOf i).toNat)
  case atStart => exact ⟨0, _, by omega, rfl, rfl, Below.refl _ _⟩
  case round =>
    obtain ⟨wo, rfl⟩ : ∃ wo : World, wo = wr := ⟨_, rfl⟩
    obtain ⟨k, x, hkn, rfl, rfl, hE⟩ := hrel
    have e3 := (hE.block w.heap.size (by omega)).trans e2
    have bo3 : Below w.heap.size w wo := bo2.trans (hE.mono (by omega))
    have zo := hE.size
    have c5 := blk1 e3 5
    clear e2 bo2
    by_cases hlt : k < nl
    · obtain ⟨rfl, hbB⟩ := hp (by omega)
      obtain ⟨kd', nn, s1, t1, pk', nk', ck', pl', nl', cl', hv, h0, h1, h2, h3, h4, h5⟩ := hc k hlt
      have hoo := hok k hlt
      rw [hv] at hoo
      clear hok hc hp hv
      have tr : ∀ (o : Nat) (c : Value), w0.cell? ⟨b, o, none⟩ = some c → wo.cell? ⟨b, o, none⟩ = some c := fun o c h => (bo3.cell (p := ⟨b, o, none⟩) (by show b < _; omega)).trans ((hw.cell (p := ⟨b, o, none⟩) hbB).trans h)
      have k0 := tr _ _ h0; have k1 := tr _ _ h1; have k2 := tr _ _ h2; have k3 := tr _ _ h3; have k4 := tr _ _ h4; have k5 := tr _ _ h5
      clear tr h0 h1 h2 h3 h4 h5
      have hwo : Below B w0 wo := hw.trans (bo3.mono hB)
      have hcall := fun l => hoo l wo hwo (by omega)
      clear hoo
      by_cases hx : 0 ≤ x
      · go_wp2_with (go_at_call 20; refine (hcall _).mono ?_; rintro e w4 ⟨⟨r4, rfl⟩, hb4⟩)
        have hE4 : Below (w.heap.size + 1) w2 w4 := hE.trans (hb4.mono (by omega))
        go_wp2
        go_roundw
        case rel => exact ⟨k + 1, r4, by omega, rfl, by go_num, hE4⟩
        case measure => simp [intOf]; omega
      · go_wp2
        go_ret
        exact ⟨⟨_, rfl⟩, bo3⟩
    · clear hok hc hp
      go_wp2
      all_goals first | (go_ret; exact ⟨⟨_, rfl⟩, bo3⟩) | skip
theorem wt_any {w0 : World} {B : Nat} {v : Value} {g : Bool} (h : InV w0 B v g) : WtOK w0 B v := by
  induction h with
  | mk kd n s t pk nk ck pl nl cl ks el g hs ht hk hl hr ih => exact valw20 w0 B kd n s t pk nk ck pl nl cl ks el hk hl ih
set_option maxRecDepth 20000 in
set_option maxHeartbeats 1600000 in
theorem vals32 (w0 : World) (B n c : Nat) (p : Option Addr) (el : Nat → Value) (hrow : SixRow w0 B n p el) (hok : ∀ i, i < n → WtOK w0 B (el i)) (left : Int) (w : World) (hw : Below B w0 w) (hB : B ≤ w.heap.size) :
    Calls Tryz.prog 32 #[.slice p n c, .int .i64 left] w (IPost w) := by
  obtain ⟨hn, b, off, hp, hc⟩ := hrow
  go_enter Tryz.func32, Tryz.ntmps32
  go_wp2_with fail
  all_goals first | (go_ret; exact ⟨⟨_, rfl⟩, Below.refl _ _⟩) | skip
  go_loopw [1, 5] (fun l i wr => ∃ (k : Nat) (x : Int), k ≤ n ∧ l = .int .i64 x ∧ i = .int .i64 k ∧ Below w.heap.size w wr) (fun _ i _ => n - (intOf i).toNat)
  case atStart => exact ⟨0, _, by omega, rfl, rfl, Below.refl _ _⟩
  case round =>
    obtain ⟨wo, rfl⟩ : ∃ wo : World, wo = wr := ⟨_, rfl⟩
    obtain ⟨k, x, hkn, rfl, rfl, bo3⟩ := hrel
    have zo := bo3.size
    by_cases hlt : k < n
    · obtain ⟨rfl, hbB⟩ := hp (by omega)
      obtain ⟨kd', nn, s1, t1, pk', nk', ck', pl', nl', cl', hv, h0, h1, h2, h3, h4, h5⟩ := hc k hlt
      have hoo := hok k hlt
      rw [hv] at hoo
      clear hok hc hp hv
      have tr : ∀ (o : Nat) (c : Value), w0.cell? ⟨b, o, none⟩ = some c → wo.cell? ⟨b, o, none⟩ = some c := fun o c h => (bo3.cell (p := ⟨b, o, none⟩) (by show b < _; omega)).trans ((hw.cell (p := ⟨b, o, none⟩) hbB).trans h)
      have k0 := tr _ _ h0; have k1 := tr _ _ h1; have k2 := tr _ _ h2; have k3 := tr _ _ h3; have k4 := tr _ _ h4; have k5 := tr _ _ h5
      clear tr h0 h1 h2 h3 h4 h5
      have hwo : Below B w0 wo := hw.trans (bo3.mono hB)
      have hcall := fun l => hoo l wo hwo (by omega)
      clear hoo
      by_cases hx : 0 ≤ x
      · go_wp2_with (go_at_call 20; refine (hcall _).mono ?_; rintro e w4 ⟨⟨r4, rfl⟩, hb4⟩)
        have hE4 : Below w.heap.size w w4 := bo3.trans (hb4.mono (by omega))
        go_wp2
        go_roundw
        case rel => exact ⟨k + 1, r4, by omega, rfl, by go_num, hE4⟩
        case measure => simp [intOf]; omega
      · go_wp2
        go_ret
        exact ⟨⟨_, rfl⟩, bo3⟩
    · clear hok hc hp
      go_wp2
      all_goals first | (go_ret; exact ⟨⟨_, rfl⟩, bo3⟩) | skip
end Go.Proofs.Exp
namespace Go.Proofs.Exp
open Go.RowKit
set_option linter.unusedVariables false
attribute [local go_sem] Oper.semAt_some
set_option maxRecDepth 20000 in
set_option maxHeartbeats 3200000 in
theorem entw18 (w0 : World) (B : Nat) (s t : ByteArray) (p0 : Option Addr) (n0 c0 : Nat) (p1 : Option Addr) (n1 c1 : Nat) (p2 : Option Addr) (n2 c2 : Nat) (p3 : Option Addr) (n3 c3 : Nat) (p4 : Option Addr) (n4 c4 : Nat)
    (ss ts k1 : Nat → ByteArray) (e2 : Nat → Value) (k3 : Nat → ByteArray) (e4 : Nat → Value) (r0 : UidRow w0 B n0 p0 ss ts) (r1 : TextRow w0 B n1 p1 k1) (r2 : SixRow w0 B n2 p2 e2) (v2 : ∀ i, i < n2 → WtOK w0 B (e2 i)) (r3 : TextRow w0 B n3 p3 k3) (r4 : SixRow w0 B n4 p4 e4) (v4 : ∀ i, i < n4 → WtOK w0 B (e4 i))
    (left : Int) (w : World) (hw : Below B w0 w) (hB : B ≤ w.heap.size) :
    Calls Tryz.prog 18 #[.agg #[.string s, .string t, .slice p0 n0 c0, .slice p1 n1 c1, .slice p2 n2 c2, .slice p3 n3 c3, .slice p4 n4 c4], .int .i64 left] w (IPost w) := by
  go_enter Tryz.func18, Tryz.ntmps18
  go_wp2_with fail
  refine (uidw19 s t left _).mono ?_
  rintro e w2 ⟨⟨x0, rfl⟩, hb2⟩
  have e2' : w2.heap[w.heap.size]? = some (.cells #[.string s, .string t, .slice p0 n0 c0, .slice p1 n1 c1, .slice p2 n2 c2, .slice p3 n3 c3, .slice p4 n4 c4] 81 (0, 0)) := (hb2.block _ (by simp)).trans (heap_alloc_new w _)
  have bo2 : Below w.heap.size w w2 := (below_refl_alloc w _).trans (hb2.mono (by simp))
  have z2 : w.heap.size < w2.heap.size := by have := hb2.size; simp at this; omega
  clear hb2
  have q2 := blk1 e2' 2
  go_wp2_with fail
  all_goals first | (go_ret; exact ⟨⟨_, rfl⟩, bo2⟩) | skip
  clear q2
  go_loopw [1, 5] (fun l i wr => ∃ (k : Nat) (x : Int), k ≤ n0 ∧ l = .int .i64 x ∧ i = .int .i64 k ∧ Below (w.heap.size + 1) w2 wr) (fun _ i _ => n0 - (intOf i).toNat)
  case atStart => exact ⟨0, _, by omega, rfl, rfl, Below.refl _ _⟩
  case round =>
    obtain ⟨wo, rfl⟩ : ∃ wo : World, wo = wr := ⟨_, rfl⟩
    obtain ⟨k, x, hkn, rfl, rfl, hE⟩ := hrel
    have e3 := (hE.block w.heap.size (by omega)).trans e2'
    have bo3 : Below w.heap.size w wo := bo2.trans (hE.mono (by omega))
    have zo := hE.size
    have q2 := blk1 e3 2
    clear e2' bo2
    by_cases hlt : k < n0
    · obtain ⟨hn, b, off, hp, hc⟩ := r0
      obtain ⟨rfl, hbB⟩ := hp (by omega)
      obtain ⟨h0, h1, _, _⟩ := hc k hlt
      have k0 := (bo3.cell (p := ⟨b, off + k * 2, none⟩) (by show b < _; omega)).trans ((hw.cell (p := ⟨b, off + k * 2, none⟩) hbB).trans h0)
      have k1' := (bo3.cell (p := ⟨b, off + k * 2 + 1, none⟩) (by show b < _; omega)).trans ((hw.cell (p := ⟨b, off + k * 2 + 1, none⟩) hbB).trans h1)
      clear hc hp h0 h1 r1 r2 v2 r3 r4 v4
      generalize ss k = sk at *
      generalize ts k = tk at *
      by_cases hx : 0 ≤ x
      · go_wp2_with fail
        refine (uidw19 sk tk x _).mono ?_
        rintro e w4 ⟨⟨r4, rfl⟩, hb4⟩
        have hE4 : Below (w.heap.size + 1) w2 w4 := hE.trans (hb4.mono (by omega))
        clear q2 e3
        go_wp2
        go_roundw
        case rel => exact ⟨k + 1, r4, by omega, rfl, by go_num, hE4⟩
        case measure => simp [intOf]; omega
      · clear q2
        have q2 := blk1 e3 2
        have q3 := blk1 e3 3
        have q4 := blk1 e3 4
        have q5 := blk1 e3 5
        have q6 := blk1 e3 6
        go_wp2
        all_goals first | (go_ret; exact ⟨⟨_, rfl⟩, bo3⟩) | skip
    · by_cases hx : 0 ≤ x
      · have hwo : Below B w0 wo := hw.trans (bo3.mono hB)
        have q3 := blk1 e3 3
        clear hE
        go_wp2_with fail
        have zwo : B ≤ wo.heap.size := by have := bo3.size; omega
        refine (names31 w0 B n1 c1 p1 k1 r1 x wo hwo).mono ?_
        rintro e w5' ⟨⟨x5, rfl⟩, hb5⟩
        have y5 : w.heap.size < wo.heap.size := (Array.getElem?_eq_some_iff.1 e3).1
        have e5 := (hb5.block w.heap.size y5).trans e3
        have bo5 : Below w.heap.size w w5' := bo3.trans (hb5.mono (by omega))
        have hw5 : Below B w0 w5' := hw.trans (bo5.mono hB)
        have g5 := blk1 e5 4
        clear hb5
        by_cases hx5 : 0 ≤ x5
        rotate_left
        · clear r1 r2 v2 r3 r4 v4 r0
          go_wp2
          all_goals first | (go_ret; exact ⟨⟨_, rfl⟩, bo5⟩) | skip
        go_wp2_with fail
        have zw5' : B ≤ w5'.heap.size := by have := bo5.size; omega
        refine (vals32 w0 B n2 c2 p2 e2 r2 v2 x5 w5' hw5 zw5').mono ?_
        rintro e w6' ⟨⟨x6, rfl⟩, hb6⟩
        have y6 : w.heap.size < w5'.heap.size := (Array.getElem?_eq_some_iff.1 e5).1
        have e6 := (hb6.block w.heap.size y6).trans e5
        have bo6 : Below w.heap.size w w6' := bo5.trans (hb6.mono (by omega))
        have hw6 : Below B w0 w6' := hw.trans (bo6.mono hB)
        have g6 := blk1 e6 5
        clear hb6
        by_cases hx6 : 0 ≤ x6
        rotate_left
        · clear r1 r2 v2 r3 r4 v4 r0
          go_wp2
          all_goals first | (go_ret; exact ⟨⟨_, rfl⟩, bo6⟩) | skip
        go_wp2_with fail
        have zw6' : B ≤ w6'.heap.size := by have := bo6.size; omega
        refine (names31 w0 B n3 c3 p3 k3 r3 x6 w6' hw6).mono ?_
        rintro e w7' ⟨⟨x7, rfl⟩, hb7⟩
        have y7 : w.heap.size < w6'.heap.size := (Array.getElem?_eq_some_iff.1 e6).1
        have e7 := (hb7.block w.heap.size y7).trans e6
        have bo7 : Below w.heap.size w w7' := bo6.trans (hb7.mono (by omega))
        have hw7 : Below B w0 w7' := hw.trans (bo7.mono hB)
        have g7 := blk1 e7 6
        clear hb7
        by_cases hx7 : 0 ≤ x7
        rotate_left
        · clear r1 r2 v2 r3 r4 v4 r0
          go_wp2
          all_goals first | (go_ret; exact ⟨⟨_, rfl⟩, bo7⟩) | skip
        go_wp2_with fail
        have zw7' : B ≤ w7'.heap.size := by have := bo7.size; omega
        refine (vals32 w0 B n4 c4 p4 e4 r4 v4 x7 w7' hw7 zw7').mono ?_
        rintro e w8' ⟨⟨x8, rfl⟩, hb8⟩
        have y8 : w.heap.size < w7'.heap.size := (Array.getElem?_eq_some_iff.1 e7).1
        have e8 := (hb8.block w.heap.size y8).trans e7
        have bo8 : Below w.heap.size w w8' := bo7.trans (hb8.mono (by omega))
        have hw8 : Below B w0 w8' := hw.trans (bo8.mono hB)
        go_wp2
        all_goals first | (go_ret; exact ⟨⟨_, rfl⟩, bo8⟩) | skip
      · clear r1 r2 v2 r3 r4 v4 r0
        go_wp2
        all_goals first | (go_ret; exact ⟨⟨_, rfl⟩, bo3⟩) | skip
end Go.Proofs.Exp
namespace Go.Proofs.Exp
open Go.RowKit
set_option linter.unusedVariables false
attribute [local go_sem] Oper.semAt_some
set_option maxRecDepth 20000 in
set_option maxHeartbeats 3200000 in
theorem worldw9 (w0 : World) (B : Nat) (d : WorldIn w0 B) (left : Int) (w : World) (hw : Below B w0 w) (hB : B ≤ w.heap.size) (v : Value) (hv : v = d.val) :
    Calls Tryz.prog 9 #[v, .int .i64 left] w (IPost w) := by
  obtain ⟨pe, ne, ce, ge, s1, t1, s2, t2, s3, t3, kd, n, s, t, pk, nk, ck, pl, nl, cl, ks, el, g, he, h1, h2, h3, hs, hk, hl, hr⟩ := d
  replace hv : v = .agg #[.slice pe ne ce, .string s1, .string t1, .string s2, .string t2, .string s3, .string t3, .int .i64 kd, .int .i64 n, .string s, .string t, .slice pk nk ck, .slice pl nl cl] := hv
  subst hv
  have hvw : WtOK w0 B (.agg #[.int .i64 kd, .int .i64 n, .string s, .string t, .slice pk nk ck, .slice pl nl cl]) := wt_any (InV.mk kd n s t pk nk ck pl nl cl ks el g hs.1 hs.2 hk hl hr)
  clear hk hl hr
  obtain ⟨hn, b, off, hp, hc⟩ := he
  go_enter Tryz.func9, Tryz.ntmps9
  go_wp2_with fail
  all_goals first | (go_ret; exact ⟨⟨_, rfl⟩, below_refl_alloc w _⟩) | skip
  obtain ⟨W1, hW1⟩ : ∃ W1, w.alloc (.cells #[.slice pe ne ce, .string s1, .string t1, .string s2, .string t2, .string s3, .string t3, .int .i64 kd, .int .i64 n, .string s, .string t, .slice pk nk ck, .slice pl nl cl] 30) = W1 := ⟨_, rfl⟩
  rw [hW1]
  have e2' : W1.heap[w.heap.size]? = some (.cells #[.slice pe ne ce, .string s1, .string t1, .string s2, .string t2, .string s3, .string t3, .int .i64 kd, .int .i64 n, .string s, .string t, .slice pk nk ck, .slice pl nl cl] 30 (0, 0)) := by rw [← hW1]; exact heap_alloc_new w _
  have bo2 : Below w.heap.size w W1 := by rw [← hW1]; exact below_refl_alloc w _
  have z2 : w.heap.size < W1.heap.size := by rw [← hW1]; simp
  clear hW1
  go_loopw [1, 5] (fun l i wr => ∃ (k : Nat) (x : Int), k ≤ ne ∧ l = .int .i64 x ∧ i = .int .i64 k ∧ Below (w.heap.size + 1) W1 wr) (fun _ i _ => ne - (intOf i).toNat)
  case atStart => exact ⟨0, _, by omega, rfl, rfl, Below.refl _ _⟩
  case round =>
    obtain ⟨wo, rfl⟩ : ∃ wo : World, wo = wr := ⟨_, rfl⟩
    obtain ⟨k, x, hkn, rfl, rfl, hE⟩ := hrel
    have e3 := (hE.block w.heap.size (by omega)).trans e2'
    have bo3 : Below w.heap.size w wo := bo2.trans (hE.mono (by omega))
    have zo := hE.size
    clear e2' bo2
    have q0 := blk1 e3 0
    have q1 := blk1 e3 1
    have q2 := blk1 e3 2
    by_cases hlt : k < ne
    · obtain ⟨rfl, hbB⟩ := hp (by omega)
      obtain ⟨⟨s', t', p0, n0, c0, p1, n1, c1, p2, n2, c2, p3, n3, c3, p4, n4, c4, ss, ts, k1, e2, g2, k3, e4, g4, hs', ht', u0, u1, u2, u3, u4, u5, u6, r0, r1, r2, v2, r3, r4, v4, hg⟩⟩ := hc k hlt
      clear hc hp
      have tr : ∀ (o : Nat) (c : Value), w0.cell? ⟨b, o, none⟩ = some c → wo.cell? ⟨b, o, none⟩ = some c := fun o c h => (bo3.cell (p := ⟨b, o, none⟩) (by show b < _; omega)).trans ((hw.cell (p := ⟨b, o, none⟩) hbB).trans h)
      have a0 := tr _ _ u0; have a1 := tr _ _ u1; have a2 := tr _ _ u2; have a3 := tr _ _ u3; have a4 := tr _ _ u4; have a5 := tr _ _ u5; have a6 := tr _ _ u6
      clear tr u0 u1 u2 u3 u4 u5 u6
      have hwo : Below B w0 wo := hw.trans (bo3.mono hB)
      have hew := entw18 w0 B s' t' p0 n0 c0 p1 n1 c1 p2 n2 c2 p3 n3 c3 p4 n4 c4 ss ts k1 e2 k3 e4 r0 r1 r2 (fun i hi => wt_any (v2 i hi)) r3 r4 (fun i hi => wt_any (v4 i hi)) x wo hwo (by omega)
      clear r0 r1 r2 v2 r3 r4 v4 hg
      by_cases hx : 0 ≤ x
      · go_wp2_with fail
        refine hew.mono ?_
        rintro e w4 ⟨⟨r4, rfl⟩, hb4⟩
        have hE4 : Below (w.heap.size + 1) W1 w4 := hE.trans (hb4.mono (by omega))
        clear e3 q0 q1 q2 hew
        go_wp2
        go_roundw
        case rel => exact ⟨k + 1, r4, by omega, rfl, by go_num, hE4⟩
        case measure => simp [intOf]; omega
      · clear hew
        go_wp2
        all_goals first | (go_ret; exact ⟨⟨_, rfl⟩, bo3⟩) | skip
    · clear hp hc
      by_cases hx : 0 ≤ x
      · have hwo : Below B w0 wo := hw.trans (bo3.mono hB)
        clear hE
        go_wp2_with fail
        have zwo : B ≤ wo.heap.size := by have := bo3.size; omega
        refine (uidw19 s1 t1 x wo).mono ?_
        rintro e w5' ⟨⟨x5, rfl⟩, hb5⟩
        have y5 : w.heap.size < wo.heap.size := (Array.getElem?_eq_some_iff.1 e3).1
        have e5 := (hb5.block w.heap.size y5).trans e3
        have bo5 : Below w.heap.size w w5' := bo3.trans (hb5.mono (by omega))
        have hw5 : Below B w0 w5' := hw.trans (bo5.mono hB)
        have g5_3 := blk1 e5 3
        have g5_4 := blk1 e5 4
        clear hb5
        by_cases hx5 : 0 ≤ x5
        rotate_left
        · go_wp2
          all_goals first | (go_ret; exact ⟨⟨_, rfl⟩, bo5⟩) | skip
        go_wp2_with fail
        have zw5' : B ≤ w5'.heap.size := by have := bo5.size; omega
        refine (uidw19 s2 t2 x5 w5').mono ?_
        rintro e w6' ⟨⟨x6, rfl⟩, hb6⟩
        have y6 : w.heap.size < w5'.heap.size := (Array.getElem?_eq_some_iff.1 e5).1
        have e6 := (hb6.block w.heap.size y6).trans e5
        have bo6 : Below w.heap.size w w6' := bo5.trans (hb6.mono (by omega))
        have hw6 : Below B w0 w6' := hw.trans (bo6.mono hB)
        have g6_5 := blk1 e6 5
        have g6_6 := blk1 e6 6
        clear hb6
        by_cases hx6 : 0 ≤ x6
        rotate_left
        · go_wp2
          all_goals first | (go_ret; exact ⟨⟨_, rfl⟩, bo6⟩) | skip
        go_wp2_with fail
        have zw6' : B ≤ w6'.heap.size := by have := bo6.size; omega
        refine (uidw19 s3 t3 x6 w6').mono ?_
        rintro e w7' ⟨⟨x7, rfl⟩, hb7⟩
        have y7 : w.heap.size < w6'.heap.size := (Array.getElem?_eq_some_iff.1 e6).1
        have e7 := (hb7.block w.heap.size y7).trans e6
        have bo7 : Below w.heap.size w w7' := bo6.trans (hb7.mono (by omega))
        have hw7 : Below B w0 w7' := hw.trans (bo7.mono hB)
        have g7_7 := blk1 e7 7
        have g7_8 := blk1 e7 8
        have g7_9 := blk1 e7 9
        have g7_10 := blk1 e7 10
        have g7_11 := blk1 e7 11
        have g7_12 := blk1 e7 12
        clear hb7
        by_cases hx7 : 0 ≤ x7
        rotate_left
        · go_wp2
          all_goals first | (go_ret; exact ⟨⟨_, rfl⟩, bo7⟩) | skip
        go_wp2_with fail
        have zw7' : B ≤ w7'.heap.size := by have := bo7.size; omega
        refine (hvw x7 w7' hw7 zw7').mono ?_
        rintro e w8' ⟨⟨x8, rfl⟩, hb8⟩
        have y8 : w.heap.size < w7'.heap.size := (Array.getElem?_eq_some_iff.1 e7).1
        have e8 := (hb8.block w.heap.size y8).trans e7
        have bo8 : Below w.heap.size w w8' := bo7.trans (hb8.mono (by omega))
        have hw8 : Below B w0 w8' := hw.trans (bo8.mono hB)
        go_wp2
        all_goals first | (go_ret; exact ⟨⟨_, rfl⟩, bo8⟩) | skip
      · go_wp2
        all_goals first | (go_ret; exact ⟨⟨_, rfl⟩, bo3⟩) | skip
set_option maxRecDepth 20000 in
set_option maxHeartbeats 1600000 in
theorem small5 (w0 : World) (B : Nat) (d : WorldIn w0 B) (w : World) (hw : Below B w0 w) (hB : B ≤ w.heap.size) (v : Value) (hv : v = d.val) :
    Calls Tryz.prog 5 #[v] w (fun e w' => (∃ r : Bool, e = .returned (.bool r)) ∧ Below w.heap.size w w') := by
  have hww := worldw9 w0 B d
  obtain ⟨pe, ne, ce, ge, s1, t1, s2, t2, s3, t3, kd, n, s, t, pk, nk, ck, pl, nl, cl, ks, el, g, he, h1, h2, h3, hs, hk, hl, hr⟩ := d
  replace hww : ∀ (left : Int) (w : World), Below B w0 w → B ≤ w.heap.size → Calls Tryz.prog 9 #[.agg #[.slice pe ne ce, .string s1, .string t1, .string s2, .string t2, .string s3, .string t3, .int .i64 kd, .int .i64 n, .string s, .string t, .slice pk nk ck, .slice pl nl cl], .int .i64 left] w (IPost w) := fun l w a b => hww l w a b _ rfl
  replace hv : v = .agg #[.slice pe ne ce, .string s1, .string t1, .string s2, .string t2, .string s3, .string t3, .int .i64 kd, .int .i64 n, .string s, .string t, .slice pk nk ck, .slice pl nl cl] := hv
  subst hv
  clear he hk hl hr
  go_enter Tryz.func5, Tryz.ntmps5
  go_wp2_with fail
  refine (hww _ _ (hw.trans ((below_refl_alloc w _).mono hB)) (by simp; omega)).mono ?_
  rintro e w2 ⟨⟨r, rfl⟩, hb⟩
  clear hww
  go_wp2
  go_ret
  exact ⟨⟨_, rfl⟩, (below_refl_alloc w _).trans (hb.mono (by simp))⟩
set_option maxRecDepth 20000 in
set_option maxHeartbeats 1600000 in
theorem fits8 (s t : ByteArray) (w : World) : Calls Tryz.prog 8 #[.agg #[.string s, .string t]] w (fun e w' => (∃ r : Bool, e = .returned (.bool r)) ∧ Below w.heap.size w w') := by
  go_enter Tryz.func8, Tryz.ntmps8
  go_wp2
  all_goals go_ret
  all_goals exact ⟨⟨_, rfl⟩, below_refl_alloc w _⟩
end Go.Proofs.Exp
