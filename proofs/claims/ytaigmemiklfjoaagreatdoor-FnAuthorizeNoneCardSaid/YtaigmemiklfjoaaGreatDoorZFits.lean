/- Part of the proof of FnAuthorizeNone: without policies no request is allowed; for every world that comes in. -/
import Derived.Test.YtaigmemiklfjoaaGreatDoorZWeight
set_option linter.unusedSimpArgs false
set_option linter.unusedVariables false
set_option linter.unnecessarySimpa false
namespace Go.Proofs.Exp
open Go.RowKit
set_option linter.unusedVariables false
attribute [local go_sem] Oper.semAt_some
def AnyB (w : World) (e : Ending) (w' : World) : Prop := (∃ r : Bool, e = .returned (.bool r)) ∧ Below w.heap.size w w'
set_option maxRecDepth 20000 in
set_option maxHeartbeats 1600000 in
theorem fits4 (w0 : World) (B : Nat) (d : WorldIn w0 B) (w : World) (v : Value) (hv : v = d.val) :
    Calls Tryz.prog 4 #[v] w (AnyB w) := by
  obtain ⟨pe, ne, ce, ge, s1, t1, s2, t2, s3, t3, kd, n, s, t, pk, nk, ck, pl, nl, cl, ks, el, g, he, h1, h2, h3, hs, hk, hl, hr⟩ := d
  replace hv : v = .agg #[.slice pe ne ce, .string s1, .string t1, .string s2, .string t2, .string s3, .string t3, .int .i64 kd, .int .i64 n, .string s, .string t, .slice pk nk ck, .slice pl nl cl] := hv
  subst hv
  clear he hk hl hr
  go_enter Tryz.func4, Tryz.ntmps4
  go_wp2_with fail
  all_goals first | (go_ret; exact ⟨⟨_, rfl⟩, below_refl_alloc w _⟩) | skip
  refine (fits8 s1 t1 _).mono ?_
  rintro e w2 ⟨⟨r, rfl⟩, hb⟩
  have e2 : w2.heap[w.heap.size]? = some (.cells #[.slice pe ne ce, .string s1, .string t1, .string s2, .string t2, .string s3, .string t3, .int .i64 kd, .int .i64 n, .string s, .string t, .slice pk nk ck, .slice pl nl cl] 30 (0, 0)) := (hb.block _ (by simp)).trans (heap_alloc_new w _)
  have bo2 : Below w.heap.size w w2 := (below_refl_alloc w _).trans (hb.mono (by simp))
  have z2 : w.heap.size < w2.heap.size := (Array.getElem?_eq_some_iff.1 e2).1
  have q3 := blk1 e2 3
  have q4 := blk1 e2 4
  clear hb
  cases r with
  | false =>
    go_wp2
    go_ret
    exact ⟨⟨_, rfl⟩, bo2⟩
  | true =>
    go_wp2_with fail
    refine (fits8 s2 t2 _).mono ?_
    rintro e w3 ⟨⟨r, rfl⟩, hb⟩
    have e3 := (hb.block _ z2).trans e2
    have bo3 : Below w.heap.size w w3 := bo2.trans (hb.mono (by omega))
    have z3 : w.heap.size < w3.heap.size := (Array.getElem?_eq_some_iff.1 e3).1
    have q5 := blk1 e3 5
    have q6 := blk1 e3 6
    clear hb
    cases r with
    | false =>
      go_wp2
      go_ret
      exact ⟨⟨_, rfl⟩, bo3⟩
    | true =>
      go_wp2_with fail
      refine (fits8 s3 t3 _).mono ?_
      rintro e w4 ⟨⟨r, rfl⟩, hb⟩
      have bo4 : Below w.heap.size w w4 := bo3.trans (hb.mono (by omega))
      cases r with
      | false =>
        go_wp2
        go_ret
        exact ⟨⟨_, rfl⟩, bo4⟩
      | true =>
        go_wp2
        go_ret
        exact ⟨⟨_, rfl⟩, bo4⟩
set_option maxRecDepth 20000 in
set_option maxHeartbeats 1600000 in
/-- The law, walked: whatever the world, true. -/
theorem law3 (d0 : World) (B : Nat) (d : WorldIn d0 B) (w : World) (hw : Below B d0 w) (hB : B ≤ w.heap.size) (v : Value) (hv : v = d.val) :
    Calls Tryz.prog 3 #[v] w (fun e w' => e = .returned (.bool true) ∧ Below w.heap.size w w') := by
  have c4 := fun w => fits4 d0 B d w v hv
  have c5 := fun w a b => small5 d0 B d w a b v hv
  have c6 := fun w a b => authorize6 d0 B d w a b d.good rfl v hv
  have c7 := fun w a b => goodw7 d0 B d w a b d.good rfl v hv
  generalize d.good = gd at *
  obtain ⟨pe, ne, ce, ge, s1, t1, s2, t2, s3, t3, kd, n, s, t, pk, nk, ck, pl, nl, cl, ks, el, g, he, h1, h2, h3, hs, hk, hl, hr⟩ := d
  replace hv : v = .agg #[.slice pe ne ce, .string s1, .string t1, .string s2, .string t2, .string s3, .string t3, .int .i64 kd, .int .i64 n, .string s, .string t, .slice pk nk ck, .slice pl nl cl] := hv
  subst hv
  clear he hk hl hr
  have hb0 : ∀ o, Below B d0 (w.alloc o) := fun o => hw.trans ((below_refl_alloc w o).mono hB)
  go_enter Tryz.func3, Tryz.ntmps3
  go_wp2_with fail
  refine (c4 _).mono ?_
  rintro e w2 ⟨⟨r, rfl⟩, hb⟩
  have e2 : w2.heap[w.heap.size]? = some (.cells #[.slice pe ne ce, .string s1, .string t1, .string s2, .string t2, .string s3, .string t3, .int .i64 kd, .int .i64 n, .string s, .string t, .slice pk nk ck, .slice pl nl cl] 30 (0, 0)) := (hb.block _ (by simp)).trans (heap_alloc_new w _)
  have bo2 : Below w.heap.size w w2 := (below_refl_alloc w _).trans (hb.mono (by simp))
  have z2 : w.heap.size < w2.heap.size := (Array.getElem?_eq_some_iff.1 e2).1
  have p0 := blk1 e2 0
  have p1 := blk1 e2 1
  have p2 := blk1 e2 2
  have p3 := blk1 e2 3
  have p4 := blk1 e2 4
  have p5 := blk1 e2 5
  have p6 := blk1 e2 6
  have p7 := blk1 e2 7
  have p8 := blk1 e2 8
  have p9 := blk1 e2 9
  have p10 := blk1 e2 10
  have p11 := blk1 e2 11
  have p12 := blk1 e2 12
  clear hb
  cases r with
  | false =>
    go_wp2
    go_ret
    exact ⟨rfl, bo2⟩
  | true =>
    go_wp2_with fail
    refine (c5 _ (hw.trans (bo2.mono hB)) (by omega)).mono ?_
    rintro e w3 ⟨⟨r, rfl⟩, hb⟩
    have e3 := (hb.block _ z2).trans e2
    have bo3 : Below w.heap.size w w3 := bo2.trans (hb.mono (by omega))
    have z3 : w.heap.size < w3.heap.size := (Array.getElem?_eq_some_iff.1 e3).1
    clear p0 p1 p2 p3 p4 p5 p6 p7 p8 p9 p10 p11 p12
    have p0 := blk1 e3 0
    have p1 := blk1 e3 1
    have p2 := blk1 e3 2
    have p3 := blk1 e3 3
    have p4 := blk1 e3 4
    have p5 := blk1 e3 5
    have p6 := blk1 e3 6
    have p7 := blk1 e3 7
    have p8 := blk1 e3 8
    have p9 := blk1 e3 9
    have p10 := blk1 e3 10
    have p11 := blk1 e3 11
    have p12 := blk1 e3 12
    clear hb
    cases r with
    | false =>
      go_wp2
      go_ret
      exact ⟨rfl, bo3⟩
    | true =>
      go_wp2_with fail
      refine (c6 _ (hw.trans (bo3.mono hB)) (by omega)).mono ?_
      rintro e w4 ⟨rfl, hb⟩
      have e4 := (hb.block _ z3).trans e3
      have bo4 : Below w.heap.size w w4 := bo3.trans (hb.mono (by omega))
      have z4 : w.heap.size < w4.heap.size := (Array.getElem?_eq_some_iff.1 e4).1
      clear p0 p1 p2 p3 p4 p5 p6 p7 p8 p9 p10 p11 p12
      have p0 := blk1 e4 0
      have p1 := blk1 e4 1
      have p2 := blk1 e4 2
      have p3 := blk1 e4 3
      have p4 := blk1 e4 4
      have p5 := blk1 e4 5
      have p6 := blk1 e4 6
      have p7 := blk1 e4 7
      have p8 := blk1 e4 8
      have p9 := blk1 e4 9
      have p10 := blk1 e4 10
      have p11 := blk1 e4 11
      have p12 := blk1 e4 12
      clear hb
      go_wp2_with fail
      refine (c7 _ (hw.trans (bo4.mono hB)) (by omega)).mono ?_
      rintro e w5 ⟨rfl, hb⟩
      have bo5 : Below w.heap.size w w5 := bo4.trans (hb.mono (by omega))
      cases gd with
      | false =>
        go_wp2
        go_ret
        exact ⟨rfl, bo5⟩
      | true =>
        go_wp2
        go_ret
        exact ⟨rfl, bo5⟩
end Go.Proofs.Exp
