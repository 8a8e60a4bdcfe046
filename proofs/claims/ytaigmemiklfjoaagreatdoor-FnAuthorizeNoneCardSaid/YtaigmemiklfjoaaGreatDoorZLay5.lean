/- Part of the proof of FnAuthorizeNone: without policies no request is allowed; for every world that comes in. -/
import Derived.Test.YtaigmemiklfjoaaGreatDoorZLay4
set_option linter.unusedSimpArgs false
set_option linter.unusedVariables false
set_option linter.unnecessarySimpa false
namespace Go.Proofs.Exp
open Go.RowKit Go.Maps Go.Sort Go.Shelf
set_option linter.unusedVariables false
set_option maxRecDepth 100000
theorem keys56 (mb : Option Nat) (w : World) : Calls Tryz.prog 56 #[.map mb] w fun e w' => e = .returned (.func (.func 77) #[] #[.pointer (some ⟨w.heap.size, 0, none⟩)]) ∧ w' = w.alloc (.cells #[.map mb] 49) :=
  (callsIn_wide (n := 5)).1 (AnyZ.keys_in keysR Fence.wide 5 trivial rfl mb w)

def CollPost0 (w : World) (es : Array MapEntry) (nn : Nat) (e : Ending) (w' : World) : Prop :=
  ∃ (v : Value) (ss : List (List UInt8)), e = .returned v ∧ (∀ x ∈ ss, ∃ en ∈ es.toList, en.key = encStr x) ∧ ss.length ≤ nn ∧ w'.ownsRow (w.heap.size + 1) 64 1 v ss.length (ss.map encStr) ∧ Below (w.heap.size + 1) (w.alloc (.cells #[.map none] 49)) w'
theorem collect55 (b nn : Nat) (V : Value → Prop) (w : World) (es : Array MapEntry) (clock : Nat) (hes : w.heap[b]? = some (.map es clock)) (hm : OwnM w b V nn) (hnn : nn ≤ 8796093022080) :
    Calls Tryz.prog 55 #[.func (.func 77) #[] #[.pointer (some ⟨w.heap.size, 0, none⟩)]] (w.alloc (.cells #[.map (some b)] 49)) (fun e w' => ∃ (v : Value) (ss : List (List UInt8)), e = .returned v ∧ (∀ x ∈ ss, ∃ en ∈ es.toList, en.key = encStr x) ∧ ss.length ≤ nn ∧ w'.ownsRow (w.heap.size + 1) 64 1 v ss.length (ss.map encStr) ∧ Below (w.heap.size + 1) (w.alloc (.cells #[.map (some b)] 49)) w') := by
  obtain ⟨⟨D0, hown⟩, hmh⟩ := hm
  have hbl := hown.lt
  have hsz : Maps.size D0 ≤ nn := hown.size_le
  have hseq : SeqGives Fence.wide 3 Tryz.prog 77 #[.pointer (some ⟨w.heap.size, 0, none⟩)] encStr (fun ss => ss.Perm (strKeys D0)) (Maps.size D0) (w.alloc (.cells #[.map (some b)] 49)) :=
    AnyZ.keys_gives (ρ := keysR_ren) { keysR with } Fence.wide _ trivial rfl (by omega) w.heap.size b nn D0 _ (by simp) (by simp) (by
      obtain ⟨es, clock, hb, Ft, hs, hD⟩ := hown
      exact ⟨es, clock, (Below.heap_alloc _ _ b hbl).trans hb, Ft, hs, hD⟩)
  have cS := AnyZ.collect_in collR Fence.wide 5 trivial trivial rfl (by omega) 77 #[.pointer (some ⟨w.heap.size, 0, none⟩)] trivial (enters_of Tryz.func77 (by kernel_rfl) rfl) _ _ (by unfold maxLen; omega) (by omega) _ hseq
  refine (callsIn_wide (n := 5)).1 (CallsIn.mono cS ?_)
  rintro e w' ⟨v, ss, rfl, hS, hrow, hnil, hb⟩
  have hrow' : w'.ownsRow (w.alloc (.cells #[.map (some b)] 49)).heap.size 64 1 v ss.length (ss.map encStr) := hrow
  obtain ⟨es2, clock2, hb2, Ft, hs, hD⟩ := hown
  have e2 : es2 = es ∧ clock2 = clock := by rw [hes] at hb2; cases hb2; exact ⟨rfl, rfl⟩
  obtain ⟨rfl, rfl⟩ := e2
  refine ⟨v, ss, rfl, ?_, ?_, by simpa using hrow', by simpa using hb⟩
  · intro x hx
    have hx2 := hS.mem_iff.1 hx
    rw [hD] at hx2
    simp only [strKeys, List.mem_map] at hx2
    obtain ⟨p, hp, rfl⟩ := hx2
    have hp2 := mem_sorted.1 hp
    obtain ⟨en, hen, rfl⟩ := List.mem_map.1 hp2
    refine ⟨en, hen, ?_⟩
    obtain ⟨y, hy⟩ := Ft.reads en hen
    have hk := WideElems.rd_key hy
    obtain ⟨x', hx', hy1, _⟩ := Maps.keyOf_str u64T hk
    have : WideElems.rg Tryz.prog 64 R1 en = y := by simp [WideElems.rg, hy]
    rw [this, hy1, hx']
    rfl
  · have := hS.length_eq
    rw [this]
    refine Nat.le_trans ?_ hsz
    rw [hD]
    simp [strKeys, Maps.size]
end Go.Proofs.Exp
namespace Go.Proofs.Exp
open Go.RowKit Go.Maps Go.Sort Go.Shelf
set_option linter.unusedVariables false
set_option maxRecDepth 100000
/-- Keys that lie in a row of the call's own. -/
def KeyRow (w : World) (base n : Nat) (es : Array MapEntry) (v : Value) : Prop :=
  (v = .slice none 0 0 ∧ n = 0) ∨ ∃ (g cap : Nat) (ks : Nat → ByteArray), v = .slice (some ⟨g, 0, none⟩) n cap ∧ base ≤ g ∧ g < w.heap.size ∧
    ∀ i, i < n → w.cell? ⟨g, i, none⟩ = some (.string (ks i)) ∧ ∃ en ∈ es.toList, en.key = .string (ks i)
theorem sort57 (base : Nat) (es : Array MapEntry) (v : Value) (ss : List (List UInt8)) (w : World) (hrow : w.ownsRow base 64 1 v ss.length (ss.map encStr)) (hk : ∀ x ∈ ss, ∃ en ∈ es.toList, en.key = encStr x) (hn : ss.length ≤ 8796093022080) (hbw : base ≤ w.heap.size) :
    Calls Tryz.prog 57 #[v] w (fun e w' => e = .returned (.tuple #[]) ∧ KeyRow w' base ss.length es v ∧ Below base w w') := by
  rcases hrow.2 with ⟨rfl, hz⟩ | ⟨g, cap, cur, rfl, hbase, hgb, r1, r2, r3, r4⟩
  · have hs := AnyM.slices_Sort_string_none sortR none 0 w
    refine Calls.mono hs ?_
    rintro e w' ⟨rfl, rfl⟩
    exact ⟨rfl, .inl ⟨rfl, hz⟩, Below.refl _ _⟩
  · have hH : Holds encStr w g 0 ss.toArray := holds_of_block hgb (by simpa using r4)
    have hgl : g < w.heap.size := (Array.getElem?_eq_some_iff.1 hgb).1
    have hs := AnyM.slices_Sort_string sortR g 0 cap ss w hH hgl (by omega)
    refine Calls.mono hs ?_
    rintro e w' ⟨rfl, nn, os, rfl⟩
    have hrow2 := ownsRow_sorted (e := 64) (base := base) (n := nn) (os := os) (w := w) (ss := ss) (ts := ss.mergeSort fun x y => decide (x ≤ y)) (by simp) hbase hgb r1 r2 r3
    have hb2 : Below base w (grow (putRow encStr (Sort.ahead w nn) g 0 (ss.mergeSort fun x y => decide (x ≤ y)).toArray) os) := ((Below.refl base w).grown (grownBy_sorted _) hbw (fun j hj => by cases hj; exact hbase))
    refine ⟨rfl, .inr ⟨g, cap, fun i => ⟨((ss.mergeSort fun x y => decide (x ≤ y))[i]?.getD []).toArray⟩, rfl, hbase, Nat.lt_of_lt_of_le hgl (by simp), fun i hi => ?_⟩, hb2⟩
    have hH2 : Holds encStr (grow (putRow encStr (Sort.ahead w nn) g 0 (ss.mergeSort fun x y => decide (x ≤ y)).toArray) os) g 0 (ss.mergeSort fun x y => decide (x ≤ y)).toArray := by
      rcases hrow2.2 with ⟨h, _⟩ | ⟨g', cap', cur', h, _, hgb', q1, q2, q3, q4⟩
      · cases h
      · cases h
        exact holds_of_block hgb' (by simpa using q4)
    have hlen : (ss.mergeSort fun x y => decide (x ≤ y)).length = ss.length := by simp
    have hmem : ∀ x ∈ (ss.mergeSort fun x y => decide (x ≤ y)), x ∈ ss := fun x hx => List.mem_mergeSort.1 hx
    generalize (ss.mergeSort fun x y => decide (x ≤ y)) = ts at *
    have h1 := (hH2 i (by simpa [hlen] using hi)).1
    have hi' : i < ts.length := by omega
    have e1 : ts[i]?.getD [] = ts[i] := by simp [hi']
    have e2 : ts.toArray[i]! = ts[i] := by simp [hi']
    simp only [e1]
    refine ⟨?_, ?_⟩
    · rw [Nat.zero_add, e2] at h1
      exact h1
    · exact hk _ (hmem _ (List.getElem_mem hi'))
theorem clone60 (b : Nat) (es : Array MapEntry) (clock : Nat) (w : World) (hb : w.heap[b]? = some (.map es clock)) :
    Calls Tryz.prog 60 #[.map (some b)] w fun e w' => e = .returned (.map (some w.heap.size)) ∧ w' = w.alloc (.map es clock) :=
  AnyW.maps_Clone cloneR b es clock w hb
end Go.Proofs.Exp
