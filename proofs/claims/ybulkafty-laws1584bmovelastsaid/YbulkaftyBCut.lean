/-
  (*levels).cut and (*levels).holds by their contracts.
-/
import Derived.Test.YbulkaftyBSetup
import Derived.Deep.RegionWith
namespace Go.Proofs.Ybulkafty
open Go.RowKit

theorem Laid.alloc {w0 w : World} {d c t l n : Nat} {A D E : Nat → Int} (h : Laid w0 w d c t l n A D E) (hw : w0.heap.size ≤ w.heap.size) (o : Obj) (hc : c < w.heap.size) (ht : t < w.heap.size) : Laid w0 (w.alloc o) d c t l n A D E :=
  ⟨h.chunk.alloc o, by rw [World.cell?_alloc_past _ _ _ hc]; exact h.top, by rw [World.cell?_alloc_past _ _ _ ht]; exact h.lev, h.list.alloc o, h.new, h.apart, h.below.alloc hw o⟩
theorem Laid.mark {w0 w : World} {d c t l n k : Nat} {A D E : Nat → Int} (h : Laid w0 w d c t l n A D E) (hk : k < 1024) (v : Int) : Laid w0 (w.setCell ⟨d, k * 5 + 3, none⟩ (.int .u32 v)) d c t l n (fun j => if j = k then v else A j) D E := by
  obtain ⟨a1, a2, a3, a4, a5, a6⟩ := h.apart
  obtain ⟨n1, n2, n3, n4⟩ := h.new
  refine ⟨h.chunk.set hk v, ?_, ?_, h.list.other (fun e => a3 e.symm) _, h.new, h.apart, h.below.setCell n1 _⟩
  · rw [World.cell?_setCell_other _ _ _ _ (by simp <;> omega)]; exact h.top
  · rw [World.cell?_setCell_other _ _ _ _ (by simp <;> omega)]; exact h.lev

theorem lt_of_cell {w : World} {a : Addr} {v : Value} (h : w.cell? a = some v) : a.block < w.heap.size := by
  unfold World.cell? at h
  split at h
  · rename_i hb
    exact (Array.getElem?_eq_some_iff.1 hb).1
  · cases h

set_option maxRecDepth 100000 in
set_option maxHeartbeats 400000 in
theorem b_cut (w0 w : World) (d c t l n p : Nat) (A D E : Nat → Int) (h : Laid w0 w d c t l n A D E) (hn : n ≤ 1024) (hp : p < n) (hE : 0 ≤ E (n - 1) ∧ E (n - 1) < 1024) :
    Calls Yba.prog 12 #[.pointer (some ⟨t, 0, none⟩), .slice (some ⟨l, 0, none⟩) n n, .int .u32 p] w fun e w' => e = .returned (.slice (some ⟨l, 0, none⟩) (n - 1) n) ∧
      Laid w0 w' d c t l n (fun j => if j = (E (n - 1)).toNat then p else A j) (fun j => if j = p then D (n - 1) else D j) (fun j => if j = p then E (n - 1) else E j) := by
  have l0 := h.list.cell0 (k := n - 1) (by omega)
  have l1 := h.list.cell1 (k := n - 1) (by omega)
  have p0 := h.list.cell0 hp
  have p1 := h.list.cell1 hp
  have q0 := h.list.free (p * 2)
  have q1 := h.list.free (p * 2 + 1)
  obtain ⟨x, hx⟩ : ∃ x, x = D (n - 1) := ⟨_, rfl⟩
  obtain ⟨y, hy⟩ : ∃ y, y = E (n - 1) := ⟨_, rfl⟩
  rw [← hx] at l0
  rw [← hy] at l1 hE
  have HX : Hid (x = D (n - 1)) := hx
  have HY : Hid (y = E (n - 1)) := hy
  clear hx hy
  have hyl : y.toNat < 1024 := by omega
  have m0 := h.chunk.cell (k := y.toNat) hyl
  have m1 := h.chunk.free (y.toNat * 5 + 3)
  have tt := h.top
  have tl := h.lev
  have hcl := lt_of_cell tt
  have htl := lt_of_cell tl
  have hll := h.list.lt
  have hdl := h.chunk.lt
  obtain ⟨a1, a2, a3, a4, a5, a6⟩ := h.apart
  simp only at hcl htl
  have hs := (laid_set h hp x y).alloc (by simpa [World.setCell] using h.below.size) (.cells #[.int .u64 x, .int .u32 y] 34) (by simpa [World.setCell] using hcl) (by simpa [World.setCell] using htl)
  have hf := ((laid_set h hp x y).mark (k := y.toNat) hyl p).alloc (by simpa [World.setCell] using h.below.size) (.cells #[.int .u64 x, .int .u32 y] 34) (by simpa [World.setCell] using hcl) (by simpa [World.setCell] using htl)
  have st := hs.top
  have sl := hs.lev
  clear h hs
  go_enter Yba.func12, Yba.ntmps12
  go_wp2
  go_region_with (go_at_call 17; refine (b_at t c d y _ (by exact sl) (by exact st) hE.1 hE.2).mono ?_; rintro e w' ⟨rfl, rfl⟩)
  go_wp2
  go_ret
  refine ⟨rfl, ?_⟩
  rw [← HX.out, ← HY.out]
  exact hf.drew

set_option maxRecDepth 100000 in
/-- holds: the entry's place lies within the list, and the list holds that entry there -/
theorem b_holds_in (w0 w : World) (d c t l n m a : Nat) (y : Int) (A D E : Nat → Int) (h : Laid w0 w d c t l n A D E) (hn : n ≤ 1024) (hm : m ≤ n) (hy : 0 ≤ y ∧ y < 1024) (hA : A y.toNat = a) (ha : a < m) :
    Calls Yba.prog 13 #[.pointer (some ⟨t, 0, none⟩), .slice (some ⟨l, 0, none⟩) m n, .int .u32 y] w fun e w' => e = .returned (.bool (E a == y)) ∧ w' = w := by
  have m0 := h.chunk.cell (k := y.toNat) (by omega)
  rw [hA] at m0
  have e1 := h.list.cell1 (k := a) (by omega)
  have st := h.top
  have sl := h.lev
  clear h hA
  go_enter Yba.func13, Yba.ntmps13
  go_wp2_with (go_at_call 17; refine (b_at t c d y _ (by exact sl) (by exact st) hy.1 hy.2).mono ?_; rintro e w' ⟨rfl, rfl⟩)
  go_ret
  exact ⟨rfl, rfl⟩
set_option maxRecDepth 100000 in
theorem b_holds_out (w0 w : World) (d c t l n m a : Nat) (y : Int) (A D E : Nat → Int) (h : Laid w0 w d c t l n A D E) (hn : n ≤ 1024) (hm : m ≤ n) (hy : 0 ≤ y ∧ y < 1024) (hA : A y.toNat = a) (ha : ¬ a < m) (_hb : a < 4294967296) :
    Calls Yba.prog 13 #[.pointer (some ⟨t, 0, none⟩), .slice (some ⟨l, 0, none⟩) m n, .int .u32 y] w fun e w' => e = .returned (.bool false) ∧ w' = w := by
  have m0 := h.chunk.cell (k := y.toNat) (by omega)
  rw [hA] at m0
  have st := h.top
  have sl := h.lev
  clear h hA
  go_enter Yba.func13, Yba.ntmps13
  go_wp2_with (go_at_call 17; refine (b_at t c d y _ (by exact sl) (by exact st) hy.1 hy.2).mono ?_; rintro e w' ⟨rfl, rfl⟩)
  go_ret
  exact ⟨rfl, rfl⟩
end Go.Proofs.Ybulkafty
