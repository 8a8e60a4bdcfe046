/- Part of the proof of FnAuthorizeNone: without policies no request is allowed; for every world that comes in. -/
import Derived.Test.YtaigmemiklfjoaaGreatDoorZLaid
set_option linter.unusedSimpArgs false
set_option linter.unusedVariables false
set_option linter.unnecessarySimpa false
namespace Go.Proofs.Exp
open Go.RowKit Go.Maps Go.WideMaps
set_option linter.unusedVariables false
theorem row66 : (66 : TypeId) < Tryz.prog.types.size := of_decide_eq_true (by kernel_rfl)
theorem law66 : KeyLaw Tryz.prog 66 := deep_law_laid laidT (m := 3) (by omega) row66 (by kernel_rfl) (by kernel_rfl)
theorem uid_keyed : Keyed Tryz.prog 66 := Keyed.of_law law66
theorem keyLits66 (fuel : Nat) (s t : ByteArray) (h1 : s.size ≤ maxLen) (h2 : t.size ≤ maxLen) : Tryz.prog.keyLits (fuel + 2) 66 [.string s, .string t] = some [.string s.data.toList, .string t.data.toList] := by
  have hu : Tryz.prog.underlying 66 = some Tryz.t65.desc := by kernel_rfl
  have hc : Tryz.prog.cellsOf 66 = 2 := by kernel_rfl
  have c63 : Tryz.prog.cellsOf 63 = 1 := by kernel_rfl
  have c64 : Tryz.prog.cellsOf 64 = 1 := by kernel_rfl
  have u63 := u63T
  have u64 := u64T
  simp only [Program.keyLits, hu, Tryz.t65, hc]
  simp [c63, c64, u63, u64, h1, h2]
theorem keyOf66 (s t : ByteArray) (hs : s.size ≤ 140737488351232) (ht : t.size ≤ 140737488351232) : ∃ l, keyOf Tryz.prog 66 (.agg #[.string s, .string t]) = some l := by
  have h1 : s.size ≤ maxLen := by unfold maxLen; omega
  have h2 : t.size ≤ maxLen := by unfold maxLen; omega
  have hu : Tryz.prog.underlying 66 = some Tryz.t65.desc := by kernel_rfl
  have hc : Tryz.prog.cellsOf 66 = 2 := by kernel_rfl
  have hk : Tryz.prog.keyType 66 = true := by kernel_rfl
  have hn : Tryz.prog.types.size + 1 = 667 + 2 := by kernel_rfl
  refine ⟨.string (keyBytes [.string s.data.toList, .string t.data.toList]), ?_⟩
  · simp only [keyOf, hu, Tryz.t65, hk, Value.formed, hc, Value.cells, hn, keyLits66 667 s t h1 h2]
    rfl
def RU : Value → Option (DataW Unit × List MemPlace)
  | .agg cs => if cs.isEmpty then some (.map [], []) else none
  | _ => none
theorem RU_some {v : Value} {y : DataW Unit × List MemPlace} (h : RU v = some y) : v = .agg #[] := by
  unfold RU at h
  split at h
  · split at h
    · rename_i cs hc
      have : cs = #[] := by simpa using hc
      rw [this]
    · cases h
  · cases h
def OwnU (w : World) (b n : Nat) : Prop := ∃ D : DataW Unit, w.ownsMap Tryz.prog 66 RU b n D
theorem OwnU.made (w : World) : OwnU (w.alloc (.map #[] 0)) w.heap.size 0 := ⟨_, World.ownsMap_made w _ _ _⟩
theorem OwnU.kept {w w' : World} {b n : Nat} (h : OwnU w b n) (he : w'.heap[b]? = w.heap[b]?) : OwnU w' b n := by
  obtain ⟨D, es, clock, hb, r⟩ := h
  exact ⟨D, es, clock, he.trans hb, r⟩
theorem OwnU.mono {w : World} {b n n' : Nat} (h : OwnU w b n) (hn : n ≤ n') : OwnU w b n' := by
  obtain ⟨D, h⟩ := h
  exact ⟨D, h.mono hn⟩
theorem OwnU.lt {w : World} {b n : Nat} (h : OwnU w b n) : b < w.heap.size := by
  obtain ⟨D, h⟩ := h
  exact h.lt
theorem u168T : Tryz.prog.underlying 168 = some (.map 66 200) := by kernel_rfl
theorem z200 (w : World) : (zeroValue 200).run Tryz.prog w = .ok (.agg #[]) w := by kernel_rfl
theorem OwnU.look {w : World} {b n : Nat} (h : OwnU w b n) (s t : ByteArray) (hs : s.size ≤ 140737488351232) (ht : t.size ≤ 140737488351232) :
    ∃ r : Bool, (Instr.lookup 168 (.map (some b)) (.agg #[.string s, .string t]) true).run Tryz.prog w = .ok (.tuple #[.agg #[], .bool r]) w := by
  obtain ⟨D, es, clock, hb, F, _, rfl⟩ := h
  obtain ⟨l, hl⟩ := keyOf66 s t hs ht
  rcases Maps.fit_look true uid_keyed u168T (z200 w) hb F hl with ⟨hr, _⟩ | ⟨e0, y, _, _, hr, hy, _⟩
  · exact ⟨false, hr⟩
  · rw [RU_some hy] at hr
    exact ⟨true, hr⟩
theorem OwnU.upd {w : World} {b n : Nat} (h : OwnU w b n) (hn : n ≤ 140737488351232) (s t : ByteArray) (hs : s.size ≤ 140737488351232) (ht : t.size ≤ 140737488351232) :
    ∃ w', (Instr.mapUpdate 168 (.map (some b)) (.agg #[.string s, .string t]) (.agg #[])).run Tryz.prog w = .ok () w' ∧ OwnU w' b (n + 1) ∧ w.grownBy w' (some b) := by
  obtain ⟨D, h⟩ := h
  obtain ⟨l, hl⟩ := keyOf66 s t hs ht
  obtain ⟨w', h1, h2, h3⟩ := h.update uid_keyed u168T (by unfold maxLen; omega) hl (val := .agg #[]) (d := .map []) (ps := []) rfl
  exact ⟨w', h1, ⟨_, h2⟩, h3⟩
end Go.Proofs.Exp
