/- Part of the proof of FnAuthorizeNone: without policies no request is allowed; for every world that comes in. -/
import Derived.Test.YtaigmemiklfjoaaGreatDoorZAuth13
set_option linter.unusedSimpArgs false
set_option linter.unusedVariables false
set_option linter.unnecessarySimpa false
namespace Go.Proofs.Exp
open Go.RowKit
set_option linter.unusedVariables false
attribute [local go_sem] Oper.semAt_some
def BPost (w : World) (b : Bool) (e : Ending) (w' : World) : Prop := e = .returned (.bool b) ∧ Below w.heap.size w w'
def GoodOK (w0 : World) (B : Nat) (v : Value) (g : Bool) : Prop := ∀ w, Below B w0 w → B ≤ w.heap.size → Calls Tryz.prog 16 #[v] w (BPost w g)
set_option maxRecDepth 20000 in
set_option maxHeartbeats 1600000 in
theorem are17 (w0 : World) (B n c : Nat) (p : Option Addr) (el : Nat → Value) (g : Nat → Bool) (hrow : SixRow w0 B n p el) (hok : ∀ i, i < n → GoodOK w0 B (el i) (g i)) (w : World) (hw : Below B w0 w) (hB : B ≤ w.heap.size) :
    Calls Tryz.prog 17 #[.slice p n c] w (BPost w (allB n g)) := by
  obtain ⟨hn, b, off, hp, hc⟩ := hrow
  go_enter Tryz.func17, Tryz.ntmps17
  go_wp2_with fail
  go_loopw [7] (fun i wr => ∃ k : Nat, k ≤ n ∧ i = .int .i64 k ∧ (∀ j, j < k → g j = true) ∧ Below w.heap.size w wr) (fun i _ => n - (intOf i).toNat)
  case atStart => exact ⟨0, by omega, rfl, by omega, Below.refl _ _⟩
  case round =>
    obtain ⟨wo, rfl⟩ : ∃ wo : World, wo = wr := ⟨_, rfl⟩
    obtain ⟨k, hkn, rfl, hgk, hb⟩ := hrel
    by_cases hlt : k < n
    · obtain ⟨rfl, hbB⟩ := hp (by omega)
      obtain ⟨kd, nn, s1, t1, pk, nk, ck, pl, nl, cl, hv, h0, h1, h2, h3, h4, h5⟩ := hc k hlt
      have hoo := hok k hlt
      rw [hv] at hoo
      clear hok hc hp hv
      have tr : ∀ (o : Nat) (c : Value), w0.cell? ⟨b, o, none⟩ = some c → wo.cell? ⟨b, o, none⟩ = some c := fun o c h => (hb.cell (p := ⟨b, o, none⟩) (by show b < _; omega)).trans ((hw.cell (p := ⟨b, o, none⟩) hbB).trans h)
      have k0 := tr _ _ h0; have k1 := tr _ _ h1; have k2 := tr _ _ h2; have k3 := tr _ _ h3; have k4 := tr _ _ h4; have k5 := tr _ _ h5
      clear tr h0 h1 h2 h3 h4 h5
      go_wp2_with fail
      obtain ⟨W1, hW1⟩ : ∃ W1, wo.alloc (.cells #[.int .i64 kd, .int .i64 nn, .string s1, .string t1, .slice pk nk ck, .slice pl nl cl] 28) = W1 := ⟨_, rfl⟩
      rw [hW1]
      have b1 : Below wo.heap.size wo W1 := by rw [← hW1]; exact below_refl_alloc wo _
      clear hW1
      have hbo := hb.size
      have hb1s := b1.size
      have hw1 : Below B w0 W1 := hw.trans ((hb.mono (by omega)).trans (b1.mono (by omega)))
      refine (hoo W1 hw1 (by omega)).mono ?_
      rintro e w2 ⟨rfl, hb2⟩
      have hbw2 : Below w.heap.size w w2 := hb.trans ((b1.mono (by omega)).trans (hb2.mono (by omega)))
      clear b1 hw1 k0 k1 k2 k3 k4 k5 hoo hb2 hb
      cases hg : g k with
      | false =>
        have hall := allB_false hlt hg
        go_wp2
        go_ret
        exact ⟨by rw [hall]; rfl, hbw2⟩
      | true =>
        go_wp2
        go_roundw
        case rel =>
          refine ⟨k + 1, by omega, by go_num, fun j hj => ?_, hbw2⟩
          by_cases hjk : j = k
          · rw [hjk]; exact hg
          · exact hgk j (by omega)
        case measure => simp [intOf]; omega
    · obtain rfl : k = n := by omega
      clear hp hc
      go_wp2
      go_ret
      have hall := allB_true.2 hgk
      exact ⟨by rw [hall]; rfl, hb⟩
set_option maxRecDepth 20000 in
set_option maxHeartbeats 1600000 in
theorem good16 (w0 : World) (B : Nat) (kd n : Int) (s t : ByteArray) (pk : Option Addr) (nk ck : Nat) (pl : Option Addr) (nl cl : Nat) (el : Nat → Value) (g : Nat → Bool) (hl : SixRow w0 B nl pl el) (hok : ∀ i, i < nl → GoodOK w0 B (el i) (g i)) (gd : Bool) (hgd : gd = goodOf kd n nk nl g) :
    GoodOK w0 B (.agg #[.int .i64 kd, .int .i64 n, .string s, .string t, .slice pk nk ck, .slice pl nl cl]) gd := by
  intro w hw hB
  have hnl := hl.1
  have har := fun w1 => are17 w0 B nl cl pl el g hl hok w1
  clear hok
  go_enter Tryz.func16, Tryz.ntmps16
  by_cases h1 : kd = 1
  · subst h1
    have e : gd = decide (n = 0 ∨ n = 1) := hgd
    clear hgd
    by_cases g0 : n = 0
    · subst g0
      obtain rfl : gd = true := by rw [e]; decide
      clear e
      go_wp2
      go_ret
      exact ⟨rfl, below_refl_alloc w _⟩
    · by_cases g1 : n = 1
      · subst g1
        obtain rfl : gd = true := by rw [e]; decide
        clear e
        go_wp2
        go_ret
        exact ⟨rfl, below_refl_alloc w _⟩
      · obtain rfl : gd = false := by rw [e]; simp [g0, g1]
        clear e
        have d0 : decide (n = 0) = false := by simp [g0]
        have d1 : decide (n = 1) = false := by simp [g1]
        have b0 : (n == 0) = false := by simp [g0]
        have b1 : (n == 1) = false := by simp [g1]
        go_wp2
        go_ret
        exact ⟨by first | rfl | rw [b1]; rfl, below_refl_alloc w _⟩
  by_cases h5 : kd = 5
  · subst h5
    have e : gd = allB nl g := hgd
    clear hgd
    subst e
    go_wp2_with fail
    refine (har _ (hw.trans ((below_refl_alloc w _).mono hB)) (by simp; omega)).mono ?_
    rintro e w2 ⟨rfl, hb⟩
    clear har
    go_wp2
    go_ret
    exact ⟨rfl, (below_refl_alloc w _).trans (hb.mono (by simp))⟩
  by_cases h6 : kd = 6
  · subst h6
    have e : gd = (decide (nk = nl) && allB nl g) := hgd
    clear hgd
    by_cases hnn : nk = nl
    · subst hnn
      have e2 : gd = allB nk g := by rw [e]; simp
      clear e
      subst e2
      go_wp2_with fail
      refine (har _ (hw.trans ((below_refl_alloc w _).mono hB)) (by simp; omega)).mono ?_
      rintro e w2 ⟨rfl, hb⟩
      clear har
      go_wp2
      go_ret
      exact ⟨rfl, (below_refl_alloc w _).trans (hb.mono (by simp))⟩
    · obtain rfl : gd = false := by rw [e]; simp [hnn]
      clear e
      have b0 : ((nk : Int) == (nl : Int)) = false := by simp; omega
      have d0 : decide ((nk : Int) = (nl : Int)) = false := by simp; omega
      go_wp2
      go_ret
      exact ⟨by first | rfl | rw [b0]; rfl, below_refl_alloc w _⟩
  · have e : gd = decide (1 ≤ kd ∧ kd ≤ 9) := by rw [hgd]; simp [goodOf, h1, h5, h6]
    clear hgd
    by_cases hlo : 1 ≤ kd
    · by_cases hhi : kd ≤ 9
      · obtain rfl : gd = true := by rw [e]; simp [hlo, hhi]
        clear e
        go_wp2
        go_ret
        exact ⟨by first | rfl | simp [hhi], below_refl_alloc w _⟩
      · obtain rfl : gd = false := by rw [e]; simp [hhi]
        clear e
        have d0 : decide (kd ≤ 9) = false := by simp; omega
        go_wp2
        go_ret
        exact ⟨by first | rfl | (rw [d0]; rfl), below_refl_alloc w _⟩
    · obtain rfl : gd = false := by rw [e]; simp [hlo]
      clear e
      have d0 : decide (1 ≤ kd) = false := by simp; omega
      go_wp2
      go_ret
      exact ⟨by first | rfl | (rw [d0]; rfl), below_refl_alloc w _⟩
theorem good_any {w0 : World} {B : Nat} {v : Value} {g : Bool} (h : InV w0 B v g) : GoodOK w0 B v g := by
  induction h with
  | mk kd n s t pk nk ck pl nl cl ks el g hs ht hk hl hr ih => exact good16 w0 B kd n s t pk nk ck pl nl cl el g hl ih _ rfl
end Go.Proofs.Exp
namespace Go.Proofs.Exp
open Go.RowKit
set_option linter.unusedVariables false
attribute [local go_sem] Oper.semAt_some
set_option maxRecDepth 20000 in
set_option maxHeartbeats 1600000 in
theorem goodw7 (w0 : World) (B : Nat) (d : WorldIn w0 B) (w : World) (hw : Below B w0 w) (hB : B ≤ w.heap.size) (gd : Bool) (hgd : gd = d.good) (v : Value) (hv : v = d.val) :
    Calls Tryz.prog 7 #[v] w (BPost w gd) := by
  obtain ⟨pe, ne, ce, ge, s1, t1, s2, t2, s3, t3, kd, n, s, t, pk, nk, ck, pl, nl, cl, ks, el, g, he, h1, h2, h3, hs, hk, hl, hr⟩ := d
  replace hv : v = .agg #[.slice pe ne ce, .string s1, .string t1, .string s2, .string t2, .string s3, .string t3, .int .i64 kd, .int .i64 n, .string s, .string t, .slice pk nk ck, .slice pl nl cl] := hv
  replace hgd : gd = ((decide (kd = 6) && (decide (nk = nl) && allB nl g)) && allB ne ge) := hgd
  subst hv
  have hgv := good_any (InV.mk kd n s t pk nk ck pl nl cl ks el g hs.1 hs.2 hk hl hr)
  obtain ⟨hn, b, off, hp, hc⟩ := he
  go_enter Tryz.func7, Tryz.ntmps7
  by_cases hkd : kd = 6
  rotate_left
  · obtain rfl : gd = false := by rw [hgd]; simp [hkd]
    clear hgd
    have d0 : decide (kd = 6) = false := by simp [hkd]
    have b0 : (kd != 6) = true := by simp [hkd]
    go_wp2
    go_ret
    exact ⟨rfl, below_refl_alloc w _⟩
  subst hkd
  have e6 : goodOf 6 n nk nl g = (decide (nk = nl) && allB nl g) := rfl
  rw [e6] at hgv
  have hgd2 : gd = ((decide (nk = nl) && allB nl g) && allB ne ge) := by rw [hgd]; simp
  clear hgd e6
  generalize (decide (nk = nl) && allB nl g) = gc at *
  go_wp2_with fail
  refine (hgv _ (hw.trans ((below_refl_alloc w _).mono hB)) (by simp; omega)).mono ?_
  rintro e w2 ⟨rfl, hb2⟩
  have hbw2 : Below w.heap.size w w2 := (below_refl_alloc w _).trans (hb2.mono (by simp))
  have z2 : w.heap.size < w2.heap.size := by have := hb2.size; simp at this; omega
  have e2 : w2.heap[w.heap.size]? = some (.cells #[.slice pe ne ce, .string s1, .string t1, .string s2, .string t2, .string s3, .string t3, .int .i64 6, .int .i64 n, .string s, .string t, .slice pk nk ck, .slice pl nl cl] 30 (0, 0)) := (hb2.block _ (by simp)).trans (heap_alloc_new w _)
  clear hb2 hgv
  cases gc with
  | false =>
    obtain rfl : gd = false := by rw [hgd2]; simp
    clear hgd2
    go_wp2
    go_ret
    exact ⟨rfl, hbw2⟩
  | true =>
    have e3 : gd = allB ne ge := by rw [hgd2]; simp
    clear hgd2
    subst e3
    have c0 := blk1 e2 0
    go_wp2_with fail
    clear c0 e2
    go_loopw [18] (fun i wr => ∃ k : Nat, k ≤ ne ∧ i = .int .i64 k ∧ (∀ j, j < k → ge j = true) ∧ Below w.heap.size w wr) (fun i _ => ne - (intOf i).toNat)
    case atStart => exact ⟨0, by omega, rfl, by omega, hbw2⟩
    case round =>
      obtain ⟨wo, rfl⟩ : ∃ wo : World, wo = wr := ⟨_, rfl⟩
      obtain ⟨k, hkn, rfl, hgk, hbw⟩ := hrel
      clear hbw2 z2
      by_cases hlt : k < ne
      · obtain ⟨rfl, hbB⟩ := hp (by omega)
        obtain ⟨⟨s', t', p0, n0, c0, p1, n1, c1, p2, n2, c2, p3, n3, c3, p4, n4, c4, ss, ts, k1, e2, g2, k3, e4, g4, hs', ht', q0, q1, q2, q3, q4, q5, q6, r0, r1, r2, v2, r3, r4, v4, hg⟩⟩ := hc k hlt
        clear hc hp
        have tr : ∀ (o : Nat) (c : Value), w0.cell? ⟨b, o, none⟩ = some c → wo.cell? ⟨b, o, none⟩ = some c := fun o c h => (hbw.cell (p := ⟨b, o, none⟩) (by show b < _; omega)).trans ((hw.cell (p := ⟨b, o, none⟩) hbB).trans h)
        have z0 := tr _ _ q0; have z1 := tr _ _ q1; have z2 := tr _ _ q2; have z3 := tr _ _ q3; have z4 := tr _ _ q4; have z5 := tr _ _ q5; have z6 := tr _ _ q6
        clear tr q0 q1 q2 q3 q4 q5 q6
        have hso := hbw.size
        have hwo : Below B w0 wo := hw.trans (hbw.mono (by omega))
        have a2 := fun w1 => are17 w0 B n2 c2 p2 e2 g2 r2 (fun i hi => good_any (v2 i hi)) w1
        have a4 := fun w1 => are17 w0 B n4 c4 p4 e4 g4 r4 (fun i hi => good_any (v4 i hi)) w1
        clear r0 r1 r2 v2 r3 r4 v4
        have bad : ∀ W, Below w.heap.size w W → ge k = false → BPost w (allB ne ge) (.returned (.bool false)) W := fun W h1 h2 => ⟨by rw [allB_false hlt h2], h1⟩
        by_cases hn12 : n1 = n2
        rotate_left
        · have hgf : ge k = false := by rw [hg]; simp [hn12]
          have b0 : ((n1 : Int) != (n2 : Int)) = true := by simp; omega
          have d0 : ¬ (n1 : Int) = (n2 : Int) := by omega
          clear hg a2 a4
          go_wp2
          go_ret
          exact bad _ (hbw.trans ((below_refl_alloc wo _).mono hso)) hgf
        by_cases hn34 : n3 = n4
        rotate_left
        · have hgf : ge k = false := by rw [hg]; simp [hn34]
          have b0 : ((n3 : Int) != (n4 : Int)) = true := by simp; omega
          have d0 : ¬ (n3 : Int) = (n4 : Int) := by omega
          clear hg a2 a4
          subst hn12
          go_wp2
          go_ret
          exact bad _ (hbw.trans ((below_refl_alloc wo _).mono hso)) hgf
        subst hn12
        subst hn34
        have hg' : ge k = (allB n1 g2 && allB n3 g4) := by rw [hg]; simp
        clear hg
        go_wp2_with fail
        obtain ⟨W1, hW1⟩ : ∃ W1, wo.alloc (.cells #[.string s', .string t', .slice p0 n0 c0, .slice p1 n1 c1, .slice p2 n1 c2, .slice p3 n3 c3, .slice p4 n3 c4] 81) = W1 := ⟨_, rfl⟩
        rw [hW1]
        have b1 : Below wo.heap.size wo W1 := by rw [← hW1]; exact below_refl_alloc wo _
        have e1 : W1.heap[wo.heap.size]? = some (.cells #[.string s', .string t', .slice p0 n0 c0, .slice p1 n1 c1, .slice p2 n1 c2, .slice p3 n3 c3, .slice p4 n3 c4] 81 (0, 0)) := by rw [← hW1]; exact heap_alloc_new wo _
        have y1 : W1.heap.size = wo.heap.size + 1 := by rw [← hW1]; simp
        clear hW1
        refine (a2 W1 (hwo.trans (b1.mono (by omega))) (by omega)).mono ?_
        rintro e w3 ⟨rfl, hb3⟩
        have y3 := hb3.size
        have e3 := (hb3.block wo.heap.size (by omega)).trans e1
        have bo3 : Below wo.heap.size wo w3 := b1.trans (hb3.mono (by omega))
        clear a2 b1 e1 hb3 z0 z1 z2 z3 z4 z5 z6
        cases hA : allB n1 g2 with
        | false =>
          have hgf : ge k = false := by rw [hg', hA]; simp
          clear a4
          go_wp2
          go_ret
          exact bad _ (hbw.trans (bo3.mono hso)) hgf
        | true =>
          have q6 := blk1 e3 6
          go_wp2_with fail
          refine (a4 w3 (hwo.trans (bo3.mono (by omega))) (by omega)).mono ?_
          rintro e w4 ⟨rfl, hb4⟩
          have bo4 : Below wo.heap.size wo w4 := bo3.trans (hb4.mono (by omega))
          clear a4 hb4 bo3 e3 q6
          cases hA4 : allB n3 g4 with
          | false =>
            have hgf : ge k = false := by rw [hg', hA4]; simp
            go_wp2
            go_ret
            exact bad _ (hbw.trans (bo4.mono hso)) hgf
          | true =>
            have hgt : ge k = true := by rw [hg', hA, hA4]; simp
            go_wp2
            go_roundw
            case rel =>
              refine ⟨k + 1, by omega, by go_num, fun j hj => ?_, hbw.trans (bo4.mono hso)⟩
              by_cases hjk : j = k
              · rw [hjk]; exact hgt
              · exact hgk j (by omega)
            case measure => simp [intOf]; omega
      · obtain rfl : k = ne := by omega
        clear hp hc
        go_wp2
        go_ret
        exact ⟨by rw [allB_true.2 hgk]; rfl, hbw⟩
end Go.Proofs.Exp
