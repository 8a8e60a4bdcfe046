/- Part of the proof of FnAuthorizeNone: without policies no request is allowed; for every world that comes in. -/
import Derived.Test.YtaigmemiklfjoaaGreatDoorZFits
import Derived.ChangeArms
import Derived.DataReads
import GoSem.ClaimJoined
set_option linter.unusedSimpArgs false
set_option linter.unusedVariables false
set_option linter.unnecessarySimpa false
namespace Go.Proofs.Exp
open Go.RowKit
set_option linter.unusedVariables false
section
variable {H : Type} {enc : TypeId × Value → H} {w : World} {base : Nat} {sp : Nat → Bool} {held : Bool} {fuel : Nat} {cs : List Value} {x : DataW H × List MemPlace}
def Sm (t : TypeId) (d : DataW H) : Prop := ∀ y ∈ d.weights Tryz.prog t, y ≤ 140737488351232
theorem mem_all {e : TypeId} {d : DataW H} {y : Nat} (hy : y ∈ d.weights Tryz.prog e) : ∀ {l : List (DataW H)}, d ∈ l → y ∈ DataW.weightsAll Tryz.prog e l
  | [], h => by cases h
  | d' :: r, h => by
    unfold DataW.weightsAll
    rcases List.mem_cons.1 h with rfl | h
    · exact List.mem_append_left _ hy
    · exact List.mem_append_right _ (mem_all hy h)
theorem mem_each {t : TypeId} {d : DataW H} {y : Nat} (hy : y ∈ d.weights Tryz.prog t) : ∀ {i : Nat} {ts : List TypeId} {l : List (DataW H)}, ts[i]? = some t → l[i]? = some d → y ∈ DataW.weightsEach Tryz.prog ts l
  | 0, t' :: ts, d' :: l, h1, h2 => by
    simp at h1 h2; subst h1; subst h2
    unfold DataW.weightsEach
    exact List.mem_append_left _ hy
  | i + 1, t' :: ts, d' :: l, h1, h2 => by
    unfold DataW.weightsEach
    exact List.mem_append_right _ (mem_each hy (by simpa using h1) (by simpa using h2))
  | i, [], _, h1, _ => by simp at h1
  | i, _ :: _, [], _, h2 => by simp at h2
theorem sm_slice {t e : TypeId} {elems rest : List (DataW H)} (ht : Tryz.prog.underlying t = some (.slice e)) (h : Sm t (.slice elems rest)) :
    (elems.length + rest.length) * Tryz.prog.bytesOf e ≤ 140737488351232 ∧ ∀ d ∈ elems, Sm e d := by
  unfold Sm DataW.weights at h
  rw [ht] at h
  refine ⟨h _ (List.mem_cons_self ..), fun d hd y hy => h y ?_⟩
  exact List.mem_cons_of_mem _ (List.mem_append_left _ (mem_all hy hd))
theorem sm_struct {t : TypeId} {fs : Array Field} {parts : List (DataW H)} (ht : Tryz.prog.underlying t = some (.struct fs)) (h : Sm t (.agg parts)) (i : Nat) (f : Field) (hf : fs[i]? = some f) (d : DataW H) (hd : parts[i]? = some d) : Sm f.type d := by
  intro y hy
  refine h y ?_
  unfold DataW.weights
  rw [ht]
  refine mem_each hy (i := i) ?_ hd
  have : fs.toList[i]? = some f := by simpa using hf
  simp [this]
theorem rd_text (h : DataW.trod enc Tryz.prog w base sp held fuel 9 cs = some x) (hs : Sm 9 x.1) : ∃ s, cs = [.string s] ∧ s.size ≤ 140737488351232 := by
  obtain ⟨s, rfl, rfl, _⟩ := DataW.trod_string (show Tryz.prog.underlying 9 = some .string by kernel_rfl) h
  refine ⟨s, rfl, hs _ ?_⟩
  simp [DataW.weights]
theorem rd_int (h : DataW.trod enc Tryz.prog w base sp held fuel 3 cs = some x) : ∃ n, cs = [.int .i64 n] := by
  obtain ⟨n, rfl, _⟩ := DataW.trod_int (show Tryz.prog.underlying 3 = some (.int .i64) by kernel_rfl) h
  exact ⟨n, rfl⟩
theorem add_none (b o i j : Nat) : ((⟨b, o, none⟩ : Addr).add i).add j = ⟨b, o + i + j, none⟩ := by
  unfold Addr.add
  by_cases h : i = 0 <;> by_cases h2 : j = 0 <;> simp [h, h2]
theorem addr_of {a : Addr} {v : Value} (h : w.cell? a = some v) : a = ⟨a.block, a.off, none⟩ ∧ a.block < w.heap.size := by
  unfold World.cell? at h
  split at h
  · rename_i c e f hb
    split at h
    · cases h
    · rename_i hsp
      refine ⟨?_, (Array.getElem?_eq_some_iff.1 hb).1⟩
      obtain ⟨b, o, s⟩ := a
      cases s with
      | none => rfl
      | some s => simp at hsp
  · cases h
theorem rd_slice {t e : TypeId} {k : Nat} (ht : Tryz.prog.underlying t = some (.slice e)) (hk : Tryz.prog.cellsOf e = k) (hk0 : 0 < k) (h : DataW.trod enc Tryz.prog w base sp held fuel t cs = some x) (hs : Sm t x.1) :
    ∃ p n c, cs = [.slice p n c] ∧ n * Tryz.prog.bytesOf e ≤ 140737488351232 ∧ ∃ b off fuel', fuel' < fuel ∧ (0 < n → p = some ⟨b, off, none⟩ ∧ b < w.heap.size) ∧
      ∀ i, i < n → ∃ cs' y, cs'.length = k ∧ (∀ j, j < k → w.cell? ⟨b, off + i * k + j, none⟩ = cs'[j]?) ∧ DataW.trod enc Tryz.prog w base sp held fuel' e cs' = some y ∧ Sm e y.1 := by
  rcases DataW.trod_slice ht h with ⟨rfl, rfl⟩ | ⟨a, len, cap, elems, rest, n, rfl, rfl, rfl, hb, hl, hm, hlen, hel, _, _⟩
  · have : fuel ≠ 0 := by rintro rfl; simp [DataW.trod] at h
    exact ⟨none, 0, 0, rfl, by simp, 0, 0, 0, by omega, fun h => by omega, fun i hi => by omega⟩
  · obtain ⟨s1, s2⟩ := sm_slice ht hs
    have hn : len * Tryz.prog.bytesOf e ≤ 140737488351232 := by
      refine Nat.le_trans (Nat.mul_le_mul_right _ ?_) s1
      simp [hlen]
    have each : ∀ i, i < len → ∃ cs' y, cs'.length = k ∧ (∀ j, j < k → w.cell? ((a.add (i * k)).add j) = cs'[j]?) ∧ DataW.trod enc Tryz.prog w base sp held n e cs' = some y ∧ Sm e y.1 := by
      intro i hi
      have hi' : i < elems.length := by omega
      have h1 := hel i hi
      rw [hk, List.getElem?_eq_getElem hi', Option.bind_eq_some_iff] at h1
      obtain ⟨cs', hc, hy⟩ := h1
      obtain ⟨_, c2, c3⟩ := World.cells?_some hc
      exact ⟨cs', _, c2, c3, hy, s2 _ (List.mem_map.2 ⟨_, List.getElem_mem hi', rfl⟩)⟩
    by_cases h0 : 0 < len
    · have ha : a = ⟨a.block, a.off, none⟩ ∧ a.block < w.heap.size := by
        obtain ⟨cs', y, c1, c2, _⟩ := each 0 h0
        have h3 := c2 0 hk0
        have hl0 : 0 < cs'.length := by rw [c1]; exact hk0
        rw [List.getElem?_eq_getElem hl0] at h3
        have e1 : (a.add (0 * k)).add 0 = a := by simp [Addr.add]
        rw [e1] at h3
        exact addr_of h3
      obtain ⟨ha1, ha2⟩ := ha
      refine ⟨some a, len, cap, rfl, hn, a.block, a.off, n, Nat.lt_succ_self n, fun _ => ⟨by rw [← ha1], ha2⟩, fun i hi => ?_⟩
      obtain ⟨cs', y, c1, c2, c3, c4⟩ := each i hi
      refine ⟨cs', y, c1, fun j hj => ?_, c3, c4⟩
      rw [← c2 j hj]
      have e2 : (a.add (i * k)).add j = ⟨a.block, a.off + i * k + j, none⟩ := by
        rw [ha1]; exact add_none _ _ _ _
      rw [e2]
    · exact ⟨some a, len, cap, rfl, hn, 0, 0, n, Nat.lt_succ_self n, fun h => absurd h h0, fun i hi => by omega⟩
end
end Go.Proofs.Exp
namespace Go.Proofs.Exp
open Go.RowKit
set_option linter.unusedVariables false
noncomputable def fsOf (t : TypeId) : Array Field := match Tryz.prog.underlying t with | some (.struct fs) => fs | _ => #[]
section
variable {H : Type} {enc : TypeId × Value → H} {w : World} {base : Nat} {sp : Nat → Bool} {held : Bool} {fuel : Nat} {cs : List Value} {x : DataW H × List MemPlace}
theorem rd_struct {t : TypeId} {k : Nat} (hu : Tryz.prog.underlying t = some (.struct (fsOf t))) (hk : Tryz.prog.cellsOf t = k) (h : DataW.trod enc Tryz.prog w base sp held fuel t cs = some x) (hs : Sm t x.1) :
    cs.length = k ∧ ∃ n, n < fuel ∧ ∀ (i : Nat) (ty : TypeId) (off c : Nat), ((fsOf t)[i]?.map fun f => (f.type, f.offset)) = some (ty, off) → Tryz.prog.cellsOf ty = c → ∃ y, DataW.trod enc Tryz.prog w base sp held n ty ((cs.drop off).take c) = some y ∧ Sm ty y.1 := by
  obtain ⟨xs, n, rfl, rfl, h1, h2, h3⟩ := DataW.trod_struct hu h
  refine ⟨h1.trans hk, n, Nat.lt_succ_self n, fun i ty off c hf hc => ?_⟩
  cases hfi : (fsOf t)[i]? with
  | none => rw [hfi] at hf; cases hf
  | some f =>
    rw [hfi] at hf
    simp only [Option.map_some, Option.some.injEq, Prod.mk.injEq] at hf
    obtain ⟨rfl, rfl⟩ := hf
    have h4 := h3 i f hfi
    have hi : i < xs.length := by rw [h2]; exact (Array.getElem?_eq_some_iff.1 hfi).1
    rw [List.getElem?_eq_getElem hi, hc] at h4
    exact ⟨_, h4, sm_struct hu hs i f hfi _ (by simp [hi])⟩
theorem u24F : Tryz.prog.underlying 24 = some (.struct (fsOf 24)) := by kernel_rfl
theorem u28F : Tryz.prog.underlying 28 = some (.struct (fsOf 28)) := by kernel_rfl
theorem u81F : Tryz.prog.underlying 81 = some (.struct (fsOf 81)) := by kernel_rfl
theorem u30F : Tryz.prog.underlying 30 = some (.struct (fsOf 30)) := by kernel_rfl
theorem u25F : Tryz.prog.underlying 25 = some (.slice 9) := by kernel_rfl
theorem u26F : Tryz.prog.underlying 26 = some (.slice 28) := by kernel_rfl
theorem u79F : Tryz.prog.underlying 79 = some (.slice 24) := by kernel_rfl
theorem u22F : Tryz.prog.underlying 22 = some (.slice 81) := by kernel_rfl
theorem c9 : Tryz.prog.cellsOf 9 = 1 := by kernel_rfl
theorem c3 : Tryz.prog.cellsOf 3 = 1 := by kernel_rfl
theorem c24 : Tryz.prog.cellsOf 24 = 2 := by kernel_rfl
theorem c28 : Tryz.prog.cellsOf 28 = 6 := by kernel_rfl
theorem c81 : Tryz.prog.cellsOf 81 = 7 := by kernel_rfl
theorem c30 : Tryz.prog.cellsOf 30 = 13 := by kernel_rfl
theorem c25 : Tryz.prog.cellsOf 25 = 1 := by kernel_rfl
theorem c26 : Tryz.prog.cellsOf 26 = 1 := by kernel_rfl
theorem c79 : Tryz.prog.cellsOf 79 = 1 := by kernel_rfl
theorem c22 : Tryz.prog.cellsOf 22 = 1 := by kernel_rfl
theorem b9 : Tryz.prog.bytesOf 9 = 16 := by kernel_rfl
theorem b24 : Tryz.prog.bytesOf 24 = 32 := by kernel_rfl
theorem b28 : Tryz.prog.bytesOf 28 = 96 := by kernel_rfl
theorem b81 : Tryz.prog.bytesOf 81 = 152 := by kernel_rfl
theorem rd_textRow (h : DataW.trod enc Tryz.prog w base sp held fuel 25 cs = some x) (hs : Sm 25 x.1) : ∃ p n c ks, cs = [.slice p n c] ∧ TextRow w w.heap.size n p ks := by
  obtain ⟨p, n, c, rfl, hn, b, off, f', _, hp, he⟩ := rd_slice u25F c9 (by decide) h hs
  have : ∀ i, ∃ s : ByteArray, i < n → w.cell? ⟨b, off + i, none⟩ = some (.string s) ∧ s.size ≤ 140737488351232 := by
    intro i
    by_cases hi : i < n
    · obtain ⟨cs', y, h1, h2, h3, h4⟩ := he i hi
      obtain ⟨s, rfl, hsz⟩ := rd_text h3 h4
      exact ⟨s, fun _ => ⟨by simpa using h2 0 (by decide), hsz⟩⟩
    · exact ⟨⟨#[]⟩, fun h => absurd h hi⟩
  obtain ⟨ks, hks⟩ := Classical.axiomOfChoice this
  rw [b9] at hn
  exact ⟨p, n, c, ks, rfl, hn, b, off, hp, hks⟩
theorem two_of {cs : List Value} (h : cs.length = 2) : ∃ a b, cs = [a, b] := by
  match cs, h with
  | [a, b], _ => exact ⟨a, b, rfl⟩
theorem rd_uid (h : DataW.trod enc Tryz.prog w base sp held fuel 24 cs = some x) (hs : Sm 24 x.1) : ∃ s t : ByteArray, cs = [.string s, .string t] ∧ s.size ≤ 140737488351232 ∧ t.size ≤ 140737488351232 := by
  obtain ⟨hl, n, _, hf⟩ := rd_struct u24F c24 h hs
  obtain ⟨a, b, rfl⟩ := two_of hl
  obtain ⟨y0, t0, m0⟩ := hf 0 9 0 1 (by kernel_rfl) c9
  obtain ⟨y1, t1, m1⟩ := hf 1 9 1 1 (by kernel_rfl) c9
  obtain ⟨s, e0, z0⟩ := rd_text t0 m0
  obtain ⟨t, e1, z1⟩ := rd_text t1 m1
  simp at e0 e1
  subst e0; subst e1
  exact ⟨s, t, rfl, z0, z1⟩
theorem rd_uidRow (h : DataW.trod enc Tryz.prog w base sp held fuel 79 cs = some x) (hs : Sm 79 x.1) : ∃ p n c ss ts, cs = [.slice p n c] ∧ UidRow w w.heap.size n p ss ts := by
  obtain ⟨p, n, c, rfl, hn, b, off, f', _, hp, he⟩ := rd_slice u79F c24 (by decide) h hs
  have : ∀ i, ∃ s : ByteArray × ByteArray, i < n → w.cell? ⟨b, off + i * 2, none⟩ = some (.string s.1) ∧ w.cell? ⟨b, off + i * 2 + 1, none⟩ = some (.string s.2) ∧ s.1.size ≤ 140737488351232 ∧ s.2.size ≤ 140737488351232 := by
    intro i
    by_cases hi : i < n
    · obtain ⟨cs', y, h1, h2, h3, h4⟩ := he i hi
      obtain ⟨s, t, rfl, z0, z1⟩ := rd_uid h3 h4
      exact ⟨(s, t), fun _ => ⟨by simpa using h2 0 (by decide), by simpa using h2 1 (by decide), z0, z1⟩⟩
    · exact ⟨(⟨#[]⟩, ⟨#[]⟩), fun h => absurd h hi⟩
  obtain ⟨ks, hks⟩ := Classical.axiomOfChoice this
  rw [b24] at hn
  exact ⟨p, n, c, fun i => (ks i).1, fun i => (ks i).2, rfl, hn, b, off, hp, hks⟩
theorem six_of {cs : List Value} (h : cs.length = 6) : ∃ a b c d e f, cs = [a, b, c, d, e, f] := by
  match cs, h with
  | [a, b, c, d, e, f], _ => exact ⟨a, b, c, d, e, f, rfl⟩
end
end Go.Proofs.Exp
namespace Go.Proofs.Exp
open Go.RowKit
set_option linter.unusedVariables false
set_option linter.unnecessarySimpa false
section
variable {H : Type} {enc : TypeId × Value → H} {w : World} {base : Nat} {sp : Nat → Bool} {held : Bool}
/-- What a reading of a Value says. -/
def ValAt (w : World) (cs : List Value) : Prop :=
  ∃ (kd n : Int) (s t : ByteArray) (pk : Option Addr) (nk ck : Nat) (pl : Option Addr) (nl cl : Nat) (ks : Nat → ByteArray) (el : Nat → Value) (g : Nat → Bool), cs = [.int .i64 kd, .int .i64 n, .string s, .string t, .slice pk nk ck, .slice pl nl cl] ∧
    s.size ≤ 140737488351232 ∧ t.size ≤ 140737488351232 ∧ TextRow w w.heap.size nk pk ks ∧ SixRow w w.heap.size nl pl el ∧ ∀ i, i < nl → InV w w.heap.size (el i) (g i)
theorem ValAt.inV {cs : List Value} (h : ValAt w cs) : ∃ g, InV w w.heap.size (.agg cs.toArray) g := by
  obtain ⟨kd, n, s, t, pk, nk, ck, pl, nl, cl, ks, el, g, rfl, hs, ht, hk, hl, hr⟩ := h
  exact ⟨_, InV.mk kd n s t pk nk ck pl nl cl ks el g hs ht hk hl hr⟩
theorem rd_valRow_of (fuel : Nat) (ih : ∀ f', f' < fuel → ∀ (cs : List Value) (x : DataW H × List MemPlace), DataW.trod enc Tryz.prog w base sp held f' 28 cs = some x → Sm 28 x.1 → ValAt w cs)
    {cs : List Value} {x : DataW H × List MemPlace} (h : DataW.trod enc Tryz.prog w base sp held fuel 26 cs = some x) (hs : Sm 26 x.1) :
    ∃ (p : Option Addr) (n c : Nat) (el : Nat → Value) (g : Nat → Bool), cs = [.slice p n c] ∧ SixRow w w.heap.size n p el ∧ ∀ i, i < n → InV w w.heap.size (el i) (g i) := by
  obtain ⟨p, n, c, rfl, hn, b, off, f', hf', hp, he⟩ := rd_slice u26F c28 (by decide) h hs
  have : ∀ i, ∃ s : Value × Bool, i < n → Six w b (off + i * 6) s.1 ∧ InV w w.heap.size s.1 s.2 := by
    intro i
    by_cases hi : i < n
    · obtain ⟨cs', y, h1, h2, h3, h4⟩ := he i hi
      have hv := ih f' hf' cs' y h3 h4
      obtain ⟨g, hg⟩ := hv.inV
      obtain ⟨kd, nn, s, t, pk, nk, ck, pl, nl, cl, ks, el, _, rfl, _⟩ := hv
      refine ⟨(_, g), fun _ => ⟨⟨kd, nn, s, t, pk, nk, ck, pl, nl, cl, rfl, ?_, ?_, ?_, ?_, ?_, ?_⟩, hg⟩⟩
      · simpa using h2 0 (by decide)
      · simpa using h2 1 (by decide)
      · simpa using h2 2 (by decide)
      · simpa using h2 3 (by decide)
      · simpa using h2 4 (by decide)
      · simpa using h2 5 (by decide)
    · exact ⟨(undef, false), fun h => absurd h hi⟩
  obtain ⟨ks, hks⟩ := Classical.axiomOfChoice this
  rw [b28] at hn
  exact ⟨p, n, c, fun i => (ks i).1, fun i => (ks i).2, rfl, ⟨hn, b, off, hp, fun i hi => (hks i hi).1⟩, fun i hi => (hks i hi).2⟩
theorem rd_val : ∀ (fuel : Nat) (cs : List Value) (x : DataW H × List MemPlace), DataW.trod enc Tryz.prog w base sp held fuel 28 cs = some x → Sm 28 x.1 → ValAt w cs := by
  intro fuel
  induction fuel using Nat.strongRecOn with
  | _ fuel ih =>
    intro cs x h hs
    obtain ⟨hl, n, hn, hf⟩ := rd_struct u28F c28 h hs
    obtain ⟨a, b, c, d, e, f, rfl⟩ := six_of hl
    obtain ⟨y0, t0, m0⟩ := hf 0 3 0 1 (by kernel_rfl) c3
    obtain ⟨y1, t1, m1⟩ := hf 1 3 1 1 (by kernel_rfl) c3
    obtain ⟨y2, t2, m2⟩ := hf 2 9 2 1 (by kernel_rfl) c9
    obtain ⟨y3, t3, m3⟩ := hf 3 9 3 1 (by kernel_rfl) c9
    obtain ⟨y4, t4, m4⟩ := hf 4 25 4 1 (by kernel_rfl) c25
    obtain ⟨y5, t5, m5⟩ := hf 5 26 5 1 (by kernel_rfl) c26
    obtain ⟨k0, e0⟩ := rd_int t0
    obtain ⟨k1, e1⟩ := rd_int t1
    obtain ⟨s, e2, z2⟩ := rd_text t2 m2
    obtain ⟨t, e3, z3⟩ := rd_text t3 m3
    obtain ⟨pk, nk, ck, ks, e4, z4⟩ := rd_textRow t4 m4
    obtain ⟨pl, nl, cl, el, g, e5, z5, z6⟩ := rd_valRow_of n (fun f' hf' => ih f' (by omega)) t5 m5
    simp at e0 e1 e2 e3 e4 e5
    subst e0; subst e1; subst e2; subst e3; subst e4; subst e5
    exact ⟨k0, k1, s, t, pk, nk, ck, pl, nl, cl, ks, el, g, rfl, z2, z3, z4, z5, z6⟩
theorem rd_valRow {fuel : Nat} {cs : List Value} {x : DataW H × List MemPlace} (h : DataW.trod enc Tryz.prog w base sp held fuel 26 cs = some x) (hs : Sm 26 x.1) :
    ∃ (p : Option Addr) (n c : Nat) (el : Nat → Value) (g : Nat → Bool), cs = [.slice p n c] ∧ SixRow w w.heap.size n p el ∧ ∀ i, i < n → InV w w.heap.size (el i) (g i) :=
  rd_valRow_of fuel (fun f' _ cs x => rd_val f' cs x) h hs
theorem seven_of {cs : List Value} (h : cs.length = 7) : ∃ a b c d e f g, cs = [a, b, c, d, e, f, g] := by
  match cs, h with
  | [a, b, c, d, e, f, g], _ => exact ⟨a, b, c, d, e, f, g, rfl⟩
theorem two_in {a b : Value} {s t : ByteArray} (h : [a, b] = [Value.string s, Value.string t]) : a = .string s ∧ b = .string t := by simpa using h
theorem rd_entRow {fuel : Nat} {cs : List Value} {x : DataW H × List MemPlace} (h : DataW.trod enc Tryz.prog w base sp held fuel 22 cs = some x) (hs : Sm 22 x.1) :
    ∃ p n c g, cs = [.slice p n c] ∧ EntRow w w.heap.size n p g := by
  obtain ⟨p, n, c, rfl, hn, b, off, f', hf', hp, he⟩ := rd_slice u22F c81 (by decide) h hs
  have : ∀ i, ∃ g : Bool, i < n → Nonempty (EntAt w w.heap.size b (off + i * 7) g) := by
    intro i
    by_cases hi : i < n
    · obtain ⟨cs', y, h1, h2, h3, h4⟩ := he i hi
      obtain ⟨_, m, _, hf⟩ := rd_struct u81F c81 h3 h4
      obtain ⟨v0, v1, v2, v3, v4, v5, v6, rfl⟩ := seven_of h1
      obtain ⟨y0, t0, m0⟩ := hf 0 24 0 2 (by kernel_rfl) c24
      obtain ⟨y1, t1, m1⟩ := hf 1 79 2 1 (by kernel_rfl) c79
      obtain ⟨y2, t2, m2⟩ := hf 2 25 3 1 (by kernel_rfl) c25
      obtain ⟨y3, t3, m3⟩ := hf 3 26 4 1 (by kernel_rfl) c26
      obtain ⟨y4, t4, m4⟩ := hf 4 25 5 1 (by kernel_rfl) c25
      obtain ⟨y5, t5, m5⟩ := hf 5 26 6 1 (by kernel_rfl) c26
      obtain ⟨s, t, e0, z0, z0'⟩ := rd_uid t0 m0
      obtain ⟨p0, n0, c0, ss, ts, e1, z1⟩ := rd_uidRow t1 m1
      obtain ⟨p1, n1, c1, k1, e2, z2⟩ := rd_textRow t2 m2
      obtain ⟨p2, n2, c2, el2, g2, e3, z3, z3'⟩ := rd_valRow t3 m3
      obtain ⟨p3, n3, c3, k3, e4, z4⟩ := rd_textRow t4 m4
      obtain ⟨p4, n4, c4, el4, g4, e5, z5, z5'⟩ := rd_valRow t5 m5
      simp at e0 e1 e2 e3 e4 e5
      obtain ⟨e0, e0'⟩ := e0
      subst e0; subst e0'; subst e1; subst e2; subst e3; subst e4; subst e5
      refine ⟨_, fun _ => ⟨⟨s, t, p0, n0, c0, p1, n1, c1, p2, n2, c2, p3, n3, c3, p4, n4, c4, ss, ts, k1, el2, g2, k3, el4, g4, z0, z0', ?_, ?_, ?_, ?_, ?_, ?_, ?_, z1, z2, z3, z3', z4, z5, z5', rfl⟩⟩⟩
      · simpa using h2 0 (by decide)
      · simpa using h2 1 (by decide)
      · simpa using h2 2 (by decide)
      · simpa using h2 3 (by decide)
      · simpa using h2 4 (by decide)
      · simpa using h2 5 (by decide)
      · simpa using h2 6 (by decide)
    · exact ⟨false, fun h => absurd h hi⟩
  obtain ⟨g, hg⟩ := Classical.axiomOfChoice this
  rw [b81] at hn
  exact ⟨p, n, c, g, rfl, hn, b, off, hp, hg⟩
theorem thirteen_of {cs : List Value} (h : cs.length = 13) : ∃ a b c d e f g i j k l m n, cs = [a, b, c, d, e, f, g, i, j, k, l, m, n] := by
  match cs, h with
  | [a, b, c, d, e, f, g, i, j, k, l, m, n], _ => exact ⟨a, b, c, d, e, f, g, i, j, k, l, m, n, rfl⟩
/-- THE READING: a World that the row reads is one that the walk takes. -/
theorem rd_world {fuel : Nat} {cs : List Value} {x : DataW H × List MemPlace} (h : DataW.trod enc Tryz.prog w base sp held fuel 30 cs = some x) (hs : Sm 30 x.1) :
    ∃ d : WorldIn w w.heap.size, d.val = .agg cs.toArray := by
  obtain ⟨hl, n, _, hf⟩ := rd_struct u30F c30 h hs
  obtain ⟨v0, v1, v2, v3, v4, v5, v6, v7, v8, v9, v10, v11, v12, rfl⟩ := thirteen_of hl
  obtain ⟨y0, t0, m0⟩ := hf 0 22 0 1 (by kernel_rfl) c22
  obtain ⟨y1, t1, m1⟩ := hf 1 24 1 2 (by kernel_rfl) c24
  obtain ⟨y2, t2, m2⟩ := hf 2 24 3 2 (by kernel_rfl) c24
  obtain ⟨y3, t3, m3⟩ := hf 3 24 5 2 (by kernel_rfl) c24
  obtain ⟨y4, t4, m4⟩ := hf 4 28 7 6 (by kernel_rfl) c28
  obtain ⟨pe, ne, ce, ge, e0, z0⟩ := rd_entRow t0 m0
  obtain ⟨s1, u1, e1, z1, z1'⟩ := rd_uid t1 m1
  obtain ⟨s2, u2, e2, z2, z2'⟩ := rd_uid t2 m2
  obtain ⟨s3, u3, e3, z3, z3'⟩ := rd_uid t3 m3
  obtain ⟨kd, nn, s, t, pk, nk, ck, pl, nl, cl, ks, el, g, e4, z4, z5, z6, z7, z8⟩ := rd_val n _ _ t4 m4
  simp at e0 e1 e2 e3 e4
  obtain ⟨e1, e1'⟩ := e1
  obtain ⟨e2, e2'⟩ := e2
  obtain ⟨e3, e3'⟩ := e3
  obtain ⟨a0, a1, a2, a3, a4, a5⟩ := e4
  subst e0; subst e1; subst e1'; subst e2; subst e2'; subst e3; subst e3'; subst a0; subst a1; subst a2; subst a3; subst a4; subst a5
  exact ⟨⟨pe, ne, ce, ge, s1, u1, s2, u2, s3, u3, kd, nn, s, t, pk, nk, ck, pl, nl, cl, ks, el, g, z0, ⟨z1, z1'⟩, ⟨z2, z2'⟩, ⟨z3, z3'⟩, ⟨z4, z5⟩, z6, z7, z8⟩, rfl⟩
end
end Go.Proofs.Exp
