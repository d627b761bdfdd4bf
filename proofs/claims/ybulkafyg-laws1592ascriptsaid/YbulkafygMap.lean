/-
  The memo's map: asked, written.
-/
import Derived.Test.YbulkafygKey
namespace Go.Proofs.Ybulkafyg
open Go.RowKit

def putB (w : World) (r : Nat) (o : Obj) : World := { w with heap := w.heap.setIfInBounds r o }
theorem putB_at {w : World} {r : Nat} {o : Obj} (h : r < w.heap.size) : (putB w r o).heap[r]? = some o := by simp [putB, h]
theorem putB_chg (w : World) (r : Nat) (o : Obj) : Chg w (putB w r o) (fun j => j = r) :=
  ⟨rfl, rfl, rfl, by simp [putB], fun k _ hk => by simp only [putB]; rw [Array.getElem?_setIfInBounds, if_neg (fun e => hk e.symm)]⟩

theorem getM {w : World} {r : Nat} {es : Array MapEntry} {clock : Nat} (hb : w.heap[r]? = some (.map es clock)) : (getObj r).run Yba.prog w = .ok (.map es clock) w := by simp [getObj, Sem.run, hb]
theorem setM {w : World} {r : Nat} {es : Array MapEntry} {clock : Nat} (o : Obj) (hb : w.heap[r]? = some (.map es clock)) : (setObj r o).run Yba.prog w = .ok () (putB w r o) := by simp [setObj, Sem.run, hb, putB]
/-- the map's value, its content -/
def MapIs (w : World) (v : Value) (l : List (Key × Value)) : Prop := (v = .map none ∧ l = []) ∨ ∃ R es clock, v = .map (some R) ∧ w.heap[R]? = some (.map es clock) ∧ EntsAre es l

theorem lookup69 (k : Key) (w : World) (v : Value) (l : List (Key × Value)) (hk : Live w k) (hl : ∀ p ∈ l, Live w p.1) (h : MapIs w v l) :
    (Instr.lookup 69 v (keyV k) true).run Yba.prog w = .ok (.tuple #[(findK l k).getD (.slice none 0 0), .bool (findK l k).isSome]) w := by
  have hz : (zeroValue 28).run Yba.prog w = .ok (.slice none 0 0) w := by kernel_rfl
  rcases h with ⟨rfl, rfl⟩ | ⟨R, es, clock, rfl, hR, he⟩
  · have hf := find86 k w hk #[] [] rfl (by simp)
    simp only [findK, List.find?_nil, Option.map_none] at hf
    simp [Instr.lookup, run_underlying Yba.underlying69, check86, hf, hz, findK]
  · have hf := find86 k w hk es l he hl
    cases hx : findK l k with
    | none =>
      rw [hx] at hf
      simp at hf
      simp [Instr.lookup, run_underlying Yba.underlying69, check86, getM hR, hf, hz]
    | some u =>
      rw [hx] at hf
      simp at hf
      simp [Instr.lookup, run_underlying Yba.underlying69, check86, getM hR, hf]

theorem findK_app {l : List (Key × Value)} {k : Key} {v : Value} (h : findK l k = none) : findK (l ++ [(k, v)]) k = some v := by
  unfold findK at *
  simp at h
  simp [List.find?_append]
  rw [List.find?_eq_none.2 (by simpa using h)]
  simp
theorem findK_set : ∀ {l : List (Key × Value)} {k : Key} {u : Value} (v : Value), findK l k = some u → findK (l.set (idxK l k) (k, v)) k = some v ∧ (l[idxK l k]?).map (·.1) = some k
  | [], k, u, v, h => by simp [findK] at h
  | p :: l, k, u, v, h => by
    by_cases c : k = p.1
    · simp [findK, idxK, List.findIdx_cons, c]
    · have h' : findK l k = some u := by simpa [findK, List.find?_cons, c] using h
      obtain ⟨h1, h2⟩ := findK_set v h'
      have e : idxK (p :: l) k = idxK l k + 1 := by simp [idxK, List.findIdx_cons, c]
      rw [e]
      refine ⟨?_, by simpa using h2⟩
      simp [findK, c]
      simpa [findK] using h1

theorem update69 (k : Key) (w : World) (R : Nat) (es : Array MapEntry) (clock : Nat) (v : Value) (l : List (Key × Value)) (hk : Live w k) (hl : ∀ p ∈ l, Live w p.1) (hR : w.heap[R]? = some (.map es clock)) (he : EntsAre es l) :
    ∃ es' clock' l', (Instr.mapUpdate 69 (.map (some R)) (keyV k) v).run Yba.prog w = .ok () (putB w R (.map es' clock')) ∧ EntsAre es' l' ∧ findK l' k = some v ∧ ∀ p ∈ l', p = (k, v) ∨ p ∈ l := by
  have hf := find86 k w hk es l he hl
  cases hx : findK l k with
  | none =>
    rw [hx] at hf
    simp at hf
    refine ⟨es.push { key := keyV k, val := v, born := clock }, clock + 1, l ++ [(k, v)], ?_, ?_, findK_app hx, fun p hp => by rcases List.mem_append.1 hp with h | h; exact .inr h; exact .inl (by simpa using h)⟩
    · simp [Instr.mapUpdate, run_underlying Yba.underlying69, check86, getM hR, hf, setM _ hR]
    · unfold EntsAre at *
      simp [he]
  | some u =>
    rw [hx] at hf
    simp at hf
    obtain ⟨h1, h2⟩ := findK_set v hx
    have hkey : ((es[idxK l k]?).map (fun e => e.key)).getD (keyV k) = keyV k := by
      have := congrArg (fun L => (L[idxK l k]?).map (·.1)) he
      simp at this h2
      obtain ⟨x, hx2⟩ := h2
      rw [hx2] at this
      simp at this
      cases hc : es[idxK l k]? with
      | none => rfl
      | some e => rw [hc] at this; simp at this; simp [this]
    have hsb : Instr.sameBits 10000 (keyV k) (keyV k) = true := by
      simp [keyV, keyC, Instr.sameBits, ptrV]
    refine ⟨es.modify (idxK l k) (fun e => { e with key := keyV k, val := v }), clock, l.set (idxK l k) (k, v), ?_, ?_, h1, fun p hp => ?_⟩
    · simp [Instr.mapUpdate, run_underlying Yba.underlying69, check86, getM hR, hf, setM _ hR, hkey, Instr.keyThatStays, hsb]
    · unfold EntsAre at *
      apply List.ext_getElem?
      intro i
      have := congrArg (fun L => L[i]?) he
      simp at this ⊢
      rw [List.getElem?_modify, List.getElem?_set]
      have hlen : es.toList.length = l.length := by have := congrArg List.length he; simpa using this
      by_cases c : idxK l k = i
      · subst c
        have hlt : idxK l k < l.length := by
          rcases Nat.lt_or_ge (idxK l k) l.length with h | h
          · exact h
          · rw [List.getElem?_eq_none h] at h2; cases h2
        have hlt' : idxK l k < es.size := by have := hlen; simp at this; omega
        simp [hlt, hlt']
      · simp [c]
        simpa using this
    · rcases List.mem_or_eq_of_mem_set hp with h | h
      · exact .inr h
      · exact .inl h
end Go.Proofs.Ybulkafyg
