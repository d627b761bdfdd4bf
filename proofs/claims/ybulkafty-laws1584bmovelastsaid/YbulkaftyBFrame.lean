/-
  What the two B laws share: their arguments opened (a slice of pairs, a uint32).
-/
import Derived.Test.YbulkaftyBCut
import Derived.ShutString
import Derived.ChangeOld
import Derived.Below
import Derived.Deep.SlicePairs
namespace Go.Proofs.Ybulkafty
open Go.ChangeShapes Go.WideShapes Go.ChangeAt Go.RowKit Go.Deep

theorem own : ownKnob Yba.prog.godebug = none := by kernel_rfl
theorem laidOut : laidOutB Yba.prog = true := by kernel_rfl

/-- What the walk is told of the items: nil; or a row of pairs. -/
def IsItems (w : World) (a : Option Addr) (len cap : Nat) (D E : Nat → Int) : Prop :=
  (a = none ∧ len = 0 ∧ cap = 0) ∨
  ∃ x, a = some x ∧ len ≤ cap ∧ cap ≤ maxLen ∧ ∀ i, i < len → w.cell? (x.add (i * 2)) = some (.int .u64 (D i)) ∧ w.cell? (x.add (i * 2 + 1)) = some (.int .u16 (E i)) ∧ 0 ≤ E i ∧ E i ≤ 65535

theorem open_items {H : Type} {enc : TypeId × Value → H} {W : World} {a : Option Addr} {len cap : Nat} {d : DataW H} {ps : List MemPlace}
    (h : DataW.Trod enc Yba.prog W 0 (fun _ => true) true 40 (.slice a len cap) d ps) : ∃ D E, IsItems W a len cap D E := by
  obtain ⟨fuel, hf⟩ := h
  rcases open_slice_pairs Yba.underlying40 Yba.underlying97 (by kernel_rfl) rfl rfl (by kernel_rfl) (by kernel_rfl) hf with ⟨hcs, _⟩ | ⟨x, l, c, m, n, V0, V1, D0, D1, P0, P1, hcs, _, hl, hm, hmm, _, hx⟩
  · simp [Value.cells] at hcs
    obtain ⟨rfl, rfl, rfl⟩ := hcs
    exact ⟨fun _ => 0, fun _ => 0, .inl ⟨rfl, rfl, rfl⟩⟩
  · simp [Value.cells] at hcs
    obtain ⟨rfl, rfl, rfl⟩ := hcs
    simp only [if_true] at hmm
    subst hmm
    refine ⟨fun i => intOf (V0 i), fun i => intOf (V1 i), .inr ⟨x, rfl, hl, hm, fun i hi => ?_⟩⟩
    obtain ⟨c0, c1, t0, t1⟩ := hx i (by omega)
    obtain ⟨n0, e0, _, _⟩ := DataW.trod_int Yba.underlying32 t0
    obtain ⟨n1, e1, _, w1⟩ := DataW.trod_int Yba.underlying23 t1
    simp at e0 e1
    have hb := bounds_u16 w1
    simp only [e0, e1] at c0 c1 ⊢
    exact ⟨c0, c1, hb⟩
end Go.Proofs.Ybulkafty
