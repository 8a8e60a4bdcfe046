/- Part of the proof of FnAuthorizeNone: without policies no request is allowed; for every world that comes in. -/
import Derived.Test.YtaigmemiklfjoaaGreatDoorZIsV
import Derived.BigQuiet
set_option linter.unusedSimpArgs false
set_option linter.unusedVariables false
set_option linter.unnecessarySimpa false
namespace Go.Proofs.Exp
open Go.RowKit
set_option linter.unusedVariables false
attribute [local go_sem] Oper.semAt_some
theorem below_drewN {B : Nat} {a b : World} (h : Below B a b) (n : Nat) : Below B a (b.drewN n) := ⟨h.os, h.tape, h.output, h.size, h.block⟩
set_option maxRecDepth 20000 in
set_option maxHeartbeats 1600000 in
theorem value_1 (n : Int) (s t : ByteArray) (pk : Option Addr) (nk ck : Nat) (pl : Option Addr) (nl cl : Nat) (w : World) :
    Calls Tryz.prog 24 #[.agg #[.int .i64 1, .int .i64 n, .string s, .string t, .slice pk nk ck, .slice pl nl cl]] w (VPost w (decide (n = 0 ∨ n = 1))) := by
  go_enter Tryz.func24, Tryz.ntmps24
  by_cases h0 : n = 0
  · subst h0
    go_wp2_with fail
    go_quiet (fail)
    go_wp2
    go_ret2
    exact ⟨_, rfl, below_drewN (below_refl_alloc w _) _, fun _ => ⟨.bool _, .other _ _ (by decide) (by decide)⟩⟩
  · by_cases h1 : n = 1
    · subst h1
      go_wp2_with fail
      go_quiet (fail)
      go_wp2
      go_ret2
      exact ⟨_, rfl, below_drewN (below_refl_alloc w _) _, fun _ => ⟨.bool _, .other _ _ (by decide) (by decide)⟩⟩
    · have d0 : decide (n = 0) = false := by simp [h0]
      have d1 : decide (n = 1) = false := by simp [h1]
      have b0 : (n == 0) = false := by simp [h0]
      have b1 : (n == 1) = false := by simp [h1]
      go_wp2_with fail
      go_quiet (fail)
      go_wp2
      go_ret2
      have e : decide (n = 0 ∨ n = 1) = false := by simp [h0, h1]
      rw [e]
      exact ⟨_, rfl, below_drewN (below_refl_alloc w _) _, fun h => by cases h⟩
set_option maxRecDepth 20000 in
set_option maxHeartbeats 1600000 in
theorem value_2 (n : Int) (s t : ByteArray) (pk : Option Addr) (nk ck : Nat) (pl : Option Addr) (nl cl : Nat) (w : World) :
    Calls Tryz.prog 24 #[.agg #[.int .i64 2, .int .i64 n, .string s, .string t, .slice pk nk ck, .slice pl nl cl]] w (VPost w true) := by
  go_enter Tryz.func24, Tryz.ntmps24
  go_wp2
  go_ret2
  exact ⟨_, rfl, below_refl_alloc w _, fun _ => ⟨.long _, .other _ _ (by decide) (by decide)⟩⟩
set_option maxRecDepth 20000 in
set_option maxHeartbeats 1600000 in
theorem value_3 (n : Int) (s t : ByteArray) (hs : s.size ≤ 140737488351232) (pk : Option Addr) (nk ck : Nat) (pl : Option Addr) (nl cl : Nat) (w : World) :
    Calls Tryz.prog 24 #[.agg #[.int .i64 3, .int .i64 n, .string s, .string t, .slice pk nk ck, .slice pl nl cl]] w (VPost w true) := by
  go_enter Tryz.func24, Tryz.ntmps24
  go_wp2
  go_ret2
  exact ⟨_, rfl, below_refl_alloc w _, fun _ => ⟨.str _ hs, .other _ _ (by decide) (by decide)⟩⟩
set_option maxRecDepth 20000 in
set_option maxHeartbeats 1600000 in
theorem value_4 (n : Int) (s t : ByteArray) (hs : s.size ≤ 140737488351232) (ht : t.size ≤ 140737488351232) (pk : Option Addr) (nk ck : Nat) (pl : Option Addr) (nl cl : Nat) (w : World) :
    Calls Tryz.prog 24 #[.agg #[.int .i64 4, .int .i64 n, .string s, .string t, .slice pk nk ck, .slice pl nl cl]] w (VPost w true) := by
  go_enter Tryz.func24, Tryz.ntmps24
  go_wp2_with (go_at_call 14; refine (uid_c t s _).mono ?_; rintro e w2 ⟨rfl, hb⟩)
  go_ret2
  exact ⟨_, rfl, (below_refl_alloc w _).trans (hb.mono (by simp)), fun _ => ⟨.uid _ _ ht hs, .other _ _ (by decide) (by decide)⟩⟩
set_option maxRecDepth 20000 in
set_option maxHeartbeats 1600000 in
theorem value_7 (n : Int) (s t : ByteArray) (pk : Option Addr) (nk ck : Nat) (pl : Option Addr) (nl cl : Nat) (w : World) :
    Calls Tryz.prog 24 #[.agg #[.int .i64 7, .int .i64 n, .string s, .string t, .slice pk nk ck, .slice pl nl cl]] w (VPost w true) := by
  go_enter Tryz.func24, Tryz.ntmps24
  go_wp2_with (go_at_call 52; refine (mk_dec n _).mono ?_; rintro e w2 ⟨rfl, hb⟩)
  go_ret2
  exact ⟨_, rfl, (below_refl_alloc w _).trans (hb.mono (by simp)), fun _ => ⟨.dec _, .other _ _ (by decide) (by decide)⟩⟩
set_option maxRecDepth 20000 in
set_option maxHeartbeats 1600000 in
theorem value_8 (n : Int) (s t : ByteArray) (pk : Option Addr) (nk ck : Nat) (pl : Option Addr) (nl cl : Nat) (w : World) :
    Calls Tryz.prog 24 #[.agg #[.int .i64 8, .int .i64 n, .string s, .string t, .slice pk nk ck, .slice pl nl cl]] w (VPost w true) := by
  go_enter Tryz.func24, Tryz.ntmps24
  go_wp2_with (go_at_call 53; refine (mk_dt n _).mono ?_; rintro e w2 ⟨rfl, hb⟩)
  go_ret2
  exact ⟨_, rfl, (below_refl_alloc w _).trans (hb.mono (by simp)), fun _ => ⟨.dt _, .other _ _ (by decide) (by decide)⟩⟩
set_option maxRecDepth 20000 in
set_option maxHeartbeats 1600000 in
theorem value_9 (n : Int) (s t : ByteArray) (pk : Option Addr) (nk ck : Nat) (pl : Option Addr) (nl cl : Nat) (w : World) :
    Calls Tryz.prog 24 #[.agg #[.int .i64 9, .int .i64 n, .string s, .string t, .slice pk nk ck, .slice pl nl cl]] w (VPost w true) := by
  go_enter Tryz.func24, Tryz.ntmps24
  go_wp2_with (go_at_call 54; refine (mk_dur n _).mono ?_; rintro e w2 ⟨rfl, hb⟩)
  go_ret2
  exact ⟨_, rfl, (below_refl_alloc w _).trans (hb.mono (by simp)), fun _ => ⟨.dur _, .other _ _ (by decide) (by decide)⟩⟩
set_option maxRecDepth 20000 in
set_option maxHeartbeats 1600000 in
theorem value_x (kd n : Int) (hkd : ¬ (1 ≤ kd ∧ kd ≤ 9)) (s t : ByteArray) (pk : Option Addr) (nk ck : Nat) (pl : Option Addr) (nl cl : Nat) (w : World) :
    Calls Tryz.prog 24 #[.agg #[.int .i64 kd, .int .i64 n, .string s, .string t, .slice pk nk ck, .slice pl nl cl]] w (VPost w false) := by
  have d1 : ¬ kd = 1 := by omega
  have d2 : ¬ kd = 2 := by omega
  have d3 : ¬ kd = 3 := by omega
  have d4 : ¬ kd = 4 := by omega
  have d5 : ¬ kd = 5 := by omega
  have d6 : ¬ kd = 6 := by omega
  have d7 : ¬ kd = 7 := by omega
  have d8 : ¬ kd = 8 := by omega
  have d9 : ¬ kd = 9 := by omega
  go_enter Tryz.func24, Tryz.ntmps24
  go_wp2
  go_ret2
  exact ⟨_, rfl, below_refl_alloc w _, fun h => by cases h⟩
end Go.Proofs.Exp
namespace Go.Proofs.Exp
open Go.RowKit
set_option linter.unusedVariables false
attribute [local go_sem] Oper.semAt_some
def SvPost (w : World) (lo : Nat) (e : Ending) (w' : World) : Prop := ∃ m h, e = .returned (.agg #[.map m, .int .u64 h]) ∧ Below w.heap.size w w' ∧ IsV w' lo (.iface 180 (.agg #[.map m, .int .u64 h]))
theorem newset_row (w : World) (lo n : Nat) (v : Value) (xs : List Value) (hlo : lo ≤ w.heap.size) (hn : n ≤ 140737488351232) (hrow : w.ownsRow lo 44 1 v n xs) (hx : ∀ x ∈ xs, IsV w lo x) :
    Calls Tryz.prog 51 #[v] w (SvPost w lo) := by
  have fin : ∀ e w', SetPost (Fr w lo) w e w' → SvPost w lo e w' := by
    rintro e w' ⟨m, h, rfl, hb, hm⟩
    refine ⟨m, h, rfl, hb, ?_⟩
    rcases hm with rfl | ⟨b, rfl, h1, h2, h3⟩
    · exact ⟨.setNil _, .mapNil _ _⟩
    · exact IsV.ofSet (by omega) h3 (fun v hv => IsV.below ⟨hv.1, hv.2⟩ hb)
  rcases hrow with ⟨hlen, ⟨rfl, rfl⟩ | ⟨g, cap, cur, rfl, hg, hgb, h1, h2, h3, h4⟩⟩
  · exact (newset_nil (Fr w lo) w).mono fin
  · have hcell : ∀ i, i < n → w.cell? ⟨g, 0 + i, none⟩ = some (xs.getD i undef) := by
      intro i hi
      have hxi : i < xs.length := by omega
      rw [blk1 hgb]
      have e1 : cur.toList[i]? = xs[i]? := by
        rw [← h4, List.getElem?_take]; simp [hi]
      rw [Nat.zero_add]
      rw [← Array.getElem?_toList, e1]
      simp [List.getElem?_eq_getElem hxi]
    have hmem : ∀ i, i < n → xs.getD i undef ∈ xs := by
      intro i hi
      have hxi : i < xs.length := by omega
      have : xs.getD i undef = xs[i] := by simp [hxi]
      rw [this]
      exact List.getElem_mem hxi
    exact (newset_some (Fr w lo) g 0 n cap (fun i => xs.getD i undef) w hn (Array.getElem?_eq_some_iff.1 hgb).1 hcell (fun i hi => (hx _ (hmem i hi)).1) (fun i hi => (hx _ (hmem i hi)).2)).mono fin
set_option maxRecDepth 20000 in
set_option maxHeartbeats 1600000 in
theorem value_5 (w0 : World) (B : Nat) (n : Int) (s t : ByteArray) (pk : Option Addr) (nk ck : Nat) (pl : Option Addr) (nl cl : Nat) (el : Nat → Value) (g : Nat → Bool) (hl : SixRow w0 B nl pl el) (hok : ∀ i, i < nl → ValueOK w0 B (el i) (g i)) (w : World) (hw : Below B w0 w) (hB : B ≤ w.heap.size) :
    Calls Tryz.prog 24 #[.agg #[.int .i64 5, .int .i64 n, .string s, .string t, .slice pk nk ck, .slice pl nl cl]] w (VPost w (allB nl g)) := by
  have hnl := hl.1
  go_enter Tryz.func24, Tryz.ntmps24
  go_wp2_with fail
  refine (values_c w0 B nl cl pl el g hl hok _ (hw.trans ((below_refl_alloc w _).mono hB)) (by simp; omega)).mono ?_
  rintro e w2 ⟨v, rfl, hb, h1, h2⟩
  have hbw : Below w.heap.size w w2 := (below_refl_alloc w _).trans (hb.mono (by simp))
  have hs2 : w.heap.size < w2.heap.size := by have := hb.size; simp at this; omega
  simp only [World.size_alloc] at h1
  clear hb
  cases hall : allB nl g with
  | false =>
    obtain rfl := h2 hall
    clear h1 h2
    go_wp2_with fail
    refine (newset_nil (fun _ => True) _).mono ?_
    rintro e w3 ⟨m, h, rfl, hb3, hm⟩
    clear hm
    go_wp2
    go_ret2
    exact ⟨.iface 180 (.agg #[.map m, .int .u64 h]), by rw [hall]; rfl, hbw.trans (hb3.mono (by omega)), fun h => by rw [hall] at h; cases h⟩
  | true =>
    obtain ⟨xs, hrow, hx⟩ := h1 hall
    clear h1 h2
    go_wp2_with fail
    refine (newset_row w2 _ nl v xs (by omega) (by omega) hrow hx).mono ?_
    rintro e w3 ⟨m, h, rfl, hb3, hm⟩
    clear hrow hx
    go_wp2
    go_ret2
    exact ⟨.iface 180 (.agg #[.map m, .int .u64 h]), by rw [hall]; rfl, hbw.trans (hb3.mono (by omega)), fun _ => hm.mono (by omega)⟩
set_option maxRecDepth 20000 in
set_option maxHeartbeats 1600000 in
theorem value_6 (w0 : World) (B : Nat) (n : Int) (s t : ByteArray) (pk : Option Addr) (nk ck : Nat) (pl : Option Addr) (nl cl : Nat) (ks : Nat → ByteArray) (el : Nat → Value) (g : Nat → Bool) (hk : TextRow w0 B nk pk ks) (hl : SixRow w0 B nl pl el) (hok : ∀ i, i < nl → ValueOK w0 B (el i) (g i)) (w : World) (hw : Below B w0 w) (hB : B ≤ w.heap.size) :
    Calls Tryz.prog 24 #[.agg #[.int .i64 6, .int .i64 n, .string s, .string t, .slice pk nk ck, .slice pl nl cl]] w (VPost w (decide (nk = nl) && allB nl g)) := by
  go_enter Tryz.func24, Tryz.ntmps24
  go_wp2_with fail
  refine (record_c w0 B nk ck nl cl pk pl ks el g hk hl hok _ (hw.trans ((below_refl_alloc w _).mono hB)) (by simp; omega)).mono ?_
  rintro e w2 ⟨m, h, rfl, hb, h1⟩
  have hbw : Below w.heap.size w w2 := (below_refl_alloc w _).trans (hb.mono (by simp))
  simp only [World.size_alloc] at h1
  clear hb
  go_wp2
  go_ret2
  exact ⟨_, rfl, hbw, fun h => (h1 h).mono (by omega)⟩
theorem value_any {w0 : World} {B : Nat} {v : Value} {g : Bool} (h : InV w0 B v g) : ValueOK w0 B v g := by
  induction h with
  | mk kd n s t pk nk ck pl nl cl ks el g hs ht hk hl hr ih =>
    intro w hw hB
    by_cases h1 : kd = 1
    · subst h1; exact value_1 n s t pk nk ck pl nl cl w
    by_cases h2 : kd = 2
    · subst h2; exact value_2 n s t pk nk ck pl nl cl w
    by_cases h3 : kd = 3
    · subst h3; exact value_3 n s t hs pk nk ck pl nl cl w
    by_cases h4 : kd = 4
    · subst h4; exact value_4 n s t hs ht pk nk ck pl nl cl w
    by_cases h5 : kd = 5
    · subst h5; exact value_5 w0 B n s t pk nk ck pl nl cl el g hl ih w hw hB
    by_cases h6 : kd = 6
    · subst h6; exact value_6 w0 B n s t pk nk ck pl nl cl ks el g hk hl ih w hw hB
    by_cases h7 : kd = 7
    · subst h7; exact value_7 n s t pk nk ck pl nl cl w
    by_cases h8 : kd = 8
    · subst h8; exact value_8 n s t pk nk ck pl nl cl w
    by_cases h9 : kd = 9
    · subst h9; exact value_9 n s t pk nk ck pl nl cl w
    have hx : ¬ (1 ≤ kd ∧ kd ≤ 9) := by omega
    have e : goodOf kd n nk nl g = false := by simp [goodOf, h1, h5, h6, hx]
    rw [e]
    exact value_x kd n hx s t pk nk ck pl nl cl w
end Go.Proofs.Exp
