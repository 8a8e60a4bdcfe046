/- Part of the proof of FnAuthorizeNone: without policies no request is allowed; for every world that comes in. -/
import Derived.Test.YtaigmemiklfjoaaGreatDoorZRecEq
set_option linter.unusedSimpArgs false
set_option linter.unusedVariables false
set_option linter.unnecessarySimpa false
namespace Go.Proofs.Exp
open Go.RowKit
set_option linter.unusedVariables false
theorem IsVal.iface {w : World} {B : Nat} {x : Value} (h : IsVal w B x) : ∃ t y, x = .iface t y := by cases h <;> exact ⟨_, _, rfl⟩
theorem seteq_any (w0 : World) (B : Nat) (m : Option Nat) (h : Int) (hm : SetM w0 B KU (VE w0 B) m) : EqOK w0 B (.iface 180 (.agg #[.map m, .int .u64 h])) := by
  intro w x hw hB hx
  obtain ⟨t, y, rfl⟩ := hx.iface
  refine ⟨_, _, _, _, Tryz.f304, rfl, me_set _ h w, Tryz.func304, by kernel_rfl, by kernel_rfl, eq_to ?_⟩
  by_cases ht : t = 180
  · subst ht
    obtain ⟨m2, h2, rfl, hm2⟩ := hx.set_inv
    rcases hm with rfl | ⟨b, rfl, hr⟩
    · exact seteq_none w0 B m2 h h2 w hw hB (.inl rfl) hm2
    · exact seteq_some w0 B b m2 h h2 w hw hB (.inr ⟨b, rfl, hr⟩) hm2
  · exact seteq_no m h t y ht w
theorem receq_any (w0 : World) (B : Nat) (m : Option Nat) (h : Int) (hm : SetM w0 B KS (VE w0 B) m) : EqOK w0 B (.iface 52 (.agg #[.map m, .int .u64 h])) := by
  intro w x hw hB hx
  obtain ⟨t, y, rfl⟩ := hx.iface
  refine ⟨_, _, _, _, Tryz.f262, rfl, me_rec _ h w, Tryz.func262, by kernel_rfl, by kernel_rfl, eq_to ?_⟩
  by_cases ht : t = 52
  · subst ht
    obtain ⟨m2, h2, rfl, hm2⟩ := hx.rec_inv
    rcases hm with rfl | ⟨b, rfl, hr⟩
    · exact receq_none w0 B m2 h h2 w hw hB (.inl rfl) hm2
    · exact receq_some w0 B b m2 h h2 w hw hB (.inr ⟨b, rfl, hr⟩) hm2
  · exact receq_no m h t y ht w
theorem equal_any {w0 : World} {B : Nat} {v : Value} (h : IsVal w0 B v) : EqOK w0 B v := by
  induction h with
  | bool x =>
    intro w y hw hB hy
    obtain ⟨t, z, rfl⟩ := hy.iface
    refine ⟨_, _, _, _, Tryz.f286, rfl, me_bool _ w, Tryz.func286, by kernel_rfl, by kernel_rfl, eq_to ?_⟩
    by_cases ht : t = 110
    · subst ht; cases hy; exact eq_bool _ _ w
    · exact eq_bool' _ t z ht w
  | long x =>
    intro w y hw hB hy
    obtain ⟨t, z, rfl⟩ := hy.iface
    refine ⟨_, _, _, _, Tryz.f298, rfl, me_long _ w, Tryz.func298, by kernel_rfl, by kernel_rfl, eq_to ?_⟩
    by_cases ht : t = 174
    · subst ht; cases hy; exact eq_long _ _ w
    · exact eq_long' _ t z ht w
  | str x =>
    intro w y hw hB hy
    obtain ⟨t, z, rfl⟩ := hy.iface
    refine ⟨_, _, _, _, Tryz.f271, rfl, me_str _ w, Tryz.func271, by kernel_rfl, by kernel_rfl, eq_to ?_⟩
    by_cases ht : t = 64
    · subst ht; cases hy; exact eq_str _ _ w
    · exact eq_str' _ t z ht w
  | uid x x' =>
    intro w y hw hB hy
    obtain ⟨t, z, rfl⟩ := hy.iface
    refine ⟨_, _, _, _, Tryz.f275, rfl, me_uid _ _ w, Tryz.func275, by kernel_rfl, by kernel_rfl, eq_to ?_⟩
    by_cases ht : t = 66
    · subst ht; cases hy; exact eq_uid _ _ _ _ w
    · exact eq_uid' _ _ t z ht w
  | dec x =>
    intro w y hw hB hy
    obtain ⟨t, z, rfl⟩ := hy.iface
    refine ⟨_, _, _, _, Tryz.f310, rfl, me_dec _ w, Tryz.func310, by kernel_rfl, by kernel_rfl, eq_to ?_⟩
    by_cases ht : t = 183
    · subst ht; cases hy; exact eq_dec _ _ w
    · exact eq_dec' _ t z ht w
  | dt x =>
    intro w y hw hB hy
    obtain ⟨t, z, rfl⟩ := hy.iface
    refine ⟨_, _, _, _, Tryz.f315, rfl, me_dt _ w, Tryz.func315, by kernel_rfl, by kernel_rfl, eq_to ?_⟩
    by_cases ht : t = 185
    · subst ht; cases hy; exact eq_dt _ _ w
    · exact eq_dt' _ t z ht w
  | dur x =>
    intro w y hw hB hy
    obtain ⟨t, z, rfl⟩ := hy.iface
    refine ⟨_, _, _, _, Tryz.f320, rfl, me_dur _ w, Tryz.func320, by kernel_rfl, by kernel_rfl, eq_to ?_⟩
    by_cases ht : t = 187
    · subst ht; cases hy; exact eq_dur _ _ w
    · exact eq_dur' _ t z ht w
  | setNil h => exact seteq_any w0 B none h (.inl rfl)
  | set b es clock h h1 h2 h3 h4 h5 ih => exact seteq_any w0 B (some b) h (.inr ⟨b, rfl, h1, es, clock, h2, h3, fun e he => ⟨(h4 e he).1, (h4 e he).2, h5 e he, ih e he⟩⟩)
  | recNil h => exact receq_any w0 B none h (.inl rfl)
  | recd b es clock h h1 h2 h3 h4 h5 ih => exact receq_any w0 B (some b) h (.inr ⟨b, rfl, h1, es, clock, h2, h3, fun e he => ⟨(h4 e he).1, (h4 e he).2, h5 e he, ih e he⟩⟩)
end Go.Proofs.Exp
