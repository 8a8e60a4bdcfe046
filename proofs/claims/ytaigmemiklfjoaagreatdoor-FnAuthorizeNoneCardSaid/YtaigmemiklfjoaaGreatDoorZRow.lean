/- Part of the proof of FnAuthorizeNone: without policies no request is allowed; for every world that comes in. -/
import Derived.Test.YtaigmemiklfjoaaGreatDoorZRead
import Derived.Test.YtaigmemiklfjoaaGreatDoorCards
import Derived.ProofKit
import Derived.OpenShut
import Derived.Carry
import Derived.Deep.DeepHandedRow
import Derived.Deep.DeepWitnessRowRef
import Derived.Lib.LaidTab
set_option linter.unusedSimpArgs false
set_option linter.unusedVariables false
set_option linter.unnecessarySimpa false
namespace Go.Proofs.YtaigmemiklfjoaaGreatDoor
open Go.ChangeShapes Go.WideShapes Go.ChangeAt Go.RowKit Go.Proofs.Exp
set_option linter.unusedVariables false
theorem own : ownKnob Tryz.prog.godebug = none := by kernel_rfl
theorem rec30 : Tryz.prog.readableRec 30 = true := by kernel_rfl
theorem row30 : (30 : TypeId) < Tryz.prog.types.size := of_decide_eq_true (by kernel_rfl)
set_option maxRecDepth 100000 in
/-- WHAT THE WALK GIVES, FOR EVERY WORLD THAT COMES IN. -/
theorem contract (H : Type) (enc : TypeId × Value → H) (W : World) (base : Nat) (args : Array Value) (ds gs : List (DataW H)) (before : List MemPlace)
    (hval : ∀ (j : Nat) t v, Tryz.f3.params[j]? = some t → args[j]? = some v → Value.okWide Tryz.prog W .any base t v)
    (hW : DataW.Whole enc Tryz.prog Tryz.f3.params.toList Rows.fnAuthorizeNoneSpec.vars false W args.toList ds gs before)
    (hz : (DataW.weightsEach Tryz.prog (Tryz.f3.params.toList ++ Rows.fnAuthorizeNoneSpec.plain.varTypes Tryz.prog) (ds ++ gs)).all (· ≤ reachBytes) = true) :
    Calls Tryz.prog 3 args W fun e W' => ∃ v, e = .returned v ∧ Rows.fnAuthorizeNoneSpec.post enc Tryz.prog Tryz.f3 false true false false W args v W' := by
  have hW' := hW
  obtain ⟨p, q, hA0, hV, rfl, hfz, hnd⟩ := hW
  have hA : DataW.TrodAll enc Tryz.prog W 0 (fun _ => true) true Tryz.f3.params.toList args.toList ds p := hA0
  rw [Tryz.params3] at hA hval hz
  obtain ⟨v0, d0, rfl, rfl, h0⟩ := trodAll_one hA
  obtain ⟨rfl, rfl⟩ := trodVars_none hV
  clear hA0
  obtain ⟨cs, rfl, _⟩ := okWide_struct u30F (hval 0 30 v0 rfl rfl)
  have hsm : Sm 30 d0 := by
    intro y hy
    have h1 := List.all_eq_true.1 hz y (mem_each hy (i := 0) rfl rfl)
    have h2 : y ≤ reachBytes := of_decide_eq_true h1
    exact h2
  obtain ⟨fuel, hf⟩ := h0
  obtain ⟨d, hd⟩ := rd_world (x := (d0, p)) hf hsm
  have hd' : d.val = .agg cs := by rw [hd]; simp [Value.cells]
  have hlt : ∀ x ∈ p, x.block < W.heap.size := fun x hx => hW'.lt x (List.mem_append_left _ hx)
  refine (law3 W W.heap.size d W (Below.refl _ _) (Nat.le_refl _) _ hd'.symm).mono fun e W' ⟨he, hb⟩ => ?_
  subst he
  refine ⟨_, rfl, [d0], [], p ++ [], [], p, [], hW', ?_, ?_, ?_, hb.frame _, fun h => by cases h⟩
  · exact trodAll_mk1 (shut_bool Tryz.underlying4 true)
  · exact trodAll_mk1 (Below.trod laidT rec30 row30 ⟨fuel, hf⟩ hb hlt)
  · rfl
noncomputable def relay (c : Array Value) : Obj → Obj
  | .cells _ t frozen => .cells c t frozen
  | o => o
noncomputable def laidHeap (S : Nat) (h : Array Obj) : Array Obj := (h
    |>.modify 1 (fun o => relay #[.iface 390 (.pointer (some ⟨S + 0, 0, none⟩))] o)
    |>.modify 2 (fun o => relay #[.iface 390 (.pointer (some ⟨S + 1, 0, none⟩))] o)
    |>.modify 3 (fun o => relay #[.iface 390 (.pointer (some ⟨S + 2, 0, none⟩))] o)
    |>.modify 4 (fun o => relay #[.iface 390 (.pointer (some ⟨S + 3, 0, none⟩))] o)
    |>.modify 5 (fun o => relay #[.iface 390 (.pointer (some ⟨S + 4, 0, none⟩))] o)
    |>.modify 7 (fun o => relay #[.int .u64 1, .int .u64 10, .int .u64 100, .int .u64 1000, .int .u64 10000, .int .u64 100000, .int .u64 1000000, .int .u64 10000000, .int .u64 100000000, .int .u64 1000000000, .int .u64 10000000000, .int .u64 100000000000, .int .u64 1000000000000, .int .u64 10000000000000, .int .u64 100000000000000, .int .u64 1000000000000000, .int .u64 10000000000000000, .int .u64 100000000000000000, .int .u64 1000000000000000000, .int .u64 10000000000000000000] o)
    |>.modify 8 (fun o => relay #[.int .u8 0, .int .u8 1, .int .u8 28, .int .u8 2, .int .u8 29, .int .u8 14, .int .u8 24, .int .u8 3, .int .u8 30, .int .u8 22, .int .u8 20, .int .u8 15, .int .u8 25, .int .u8 17, .int .u8 4, .int .u8 8, .int .u8 31, .int .u8 27, .int .u8 13, .int .u8 23, .int .u8 21, .int .u8 19, .int .u8 16, .int .u8 7, .int .u8 26, .int .u8 12, .int .u8 18, .int .u8 6, .int .u8 11, .int .u8 5, .int .u8 10, .int .u8 9] o)
    |>.modify 9 (fun o => relay #[.int .u8 0, .int .u8 1, .int .u8 56, .int .u8 2, .int .u8 57, .int .u8 49, .int .u8 28, .int .u8 3, .int .u8 61, .int .u8 58, .int .u8 42, .int .u8 50, .int .u8 38, .int .u8 29, .int .u8 17, .int .u8 4, .int .u8 62, .int .u8 47, .int .u8 59, .int .u8 36, .int .u8 45, .int .u8 43, .int .u8 51, .int .u8 22, .int .u8 53, .int .u8 39, .int .u8 33, .int .u8 30, .int .u8 24, .int .u8 18, .int .u8 12, .int .u8 5, .int .u8 63, .int .u8 55, .int .u8 48, .int .u8 27, .int .u8 60, .int .u8 41, .int .u8 37, .int .u8 16, .int .u8 46, .int .u8 35, .int .u8 44, .int .u8 21, .int .u8 52, .int .u8 32, .int .u8 23, .int .u8 11, .int .u8 54, .int .u8 26, .int .u8 40, .int .u8 15, .int .u8 34, .int .u8 20, .int .u8 31, .int .u8 10, .int .u8 25, .int .u8 14, .int .u8 19, .int .u8 9, .int .u8 13, .int .u8 8, .int .u8 7, .int .u8 6] o)
    |>.push (.cells #[.string ⟨#[116, 121, 112, 101, 32, 101, 114, 114, 111, 114]⟩] 392)
    |>.push (.cells #[.string ⟨#[105, 110, 118, 97, 108, 105, 100, 32, 115, 121, 110, 116, 97, 120]⟩] 392)
    |>.push (.cells #[.string ⟨#[118, 97, 108, 117, 101, 32, 111, 117, 116, 32, 111, 102, 32, 114, 97, 110, 103, 101]⟩] 392)
    |>.push (.cells #[.string ⟨#[119, 114, 111, 110, 103, 32, 110, 117, 109, 98, 101, 114, 32, 111, 102, 32, 97, 114, 103, 117, 109, 101, 110, 116, 115, 32, 112, 114, 111, 118, 105, 100, 101, 100, 32, 116, 111, 32, 101, 120, 116, 101, 110, 115, 105, 111, 110, 32, 102, 117, 110, 99, 116, 105, 111, 110]⟩] 392)
    |>.push (.cells #[.string ⟨#[102, 117, 110, 99, 116, 105, 111, 110, 32, 100, 111, 101, 115, 32, 110, 111, 116, 32, 101, 120, 105, 115, 116]⟩] 392))
noncomputable def laidWorld (os : Os) : World :=
  { World.holding Tryz.prog os ⟨#[], #[], []⟩ with heap := laidHeap (World.holding Tryz.prog os ⟨#[], #[], []⟩).heap.size (World.holding Tryz.prog os ⟨#[], #[], []⟩).heap }
abbrev noWorld : Value := .agg #[.slice none 0 0, .string ⟨#[]⟩, .string ⟨#[]⟩, .string ⟨#[]⟩, .string ⟨#[]⟩, .string ⟨#[]⟩, .string ⟨#[]⟩, .int .i64 0, .int .i64 0, .string ⟨#[]⟩, .string ⟨#[]⟩, .slice none 0 0, .slice none 0 0]
end Go.Proofs.YtaigmemiklfjoaaGreatDoor
