/-
  copy of a list of pairs into a new row of pairs; a copied list beside what setup laid.
-/
import Derived.Test.YbulkaftyBFrame
import Derived.Laws.CopyRow
namespace Go.Proofs.Ybulkafty
open Go.RowKit

theorem setRow_alloc (w : World) (c cs : Array Value) (t : TypeId) : (w.alloc (.cells c t)).setRow w.heap.size cs = w.alloc (.cells cs t) := by
  show ({ w with heap := (w.heap.push (.cells c t)).modify w.heap.size _ } : World) = { w with heap := w.heap.push (.cells cs t) }
  congr 1
  apply Array.ext
  · simp
  · intro k h1 h2
    simp only [Array.getElem_modify]
    by_cases hk : w.heap.size = k
    · subst hk; simp
    · have : k < w.heap.size := by simp at h2; omega
      simp [hk, Array.getElem_push_lt this]

theorem run_copy2 (w : World) (l n : Nat) (D E : Nat → Int) (h : ListIs w l n D E) (_hn : n ≤ 1024) :
    ∃ cs : Array Value, (∀ ty, (Builtin.copy_ #[30, 30] ty #[.slice (some ⟨w.heap.size, 0, none⟩) n n, .slice (some ⟨l, 0, none⟩) n n]).run Yba.prog (w.alloc (.cells (list0 n) 34)) = .ok (.int .i64 n) (w.alloc (.cells cs 34))) ∧
      ListIs (w.alloc (.cells cs 34)) w.heap.size n D E := by
  obtain ⟨f, hr, hf⟩ := h
  have hr' := hr.alloc (.cells (list0 n) 34)
  obtain ⟨i, hi, his⟩ := Option.map_eq_some_iff.1 (show (Yba.prog.info? 34).map (·.size) = some 2 by kernel_rfl)
  have hlen : ((List.range (n * 2)).map f).length = n * 2 := by simp
  have hl := run_loadCells_list (P := Yba.prog) (w.alloc (.cells (list0 n) 34)) ⟨l, 0, none⟩ ((List.range (n * 2)).map f) (fun j v hj => by
    have hjl : j < n * 2 := by
      have := (List.getElem?_eq_some_iff.1 hj).1
      simpa using this
    have e : v = f j := by simpa [hjl] using hj.symm
    rw [Addr.add_lit, Nat.zero_add, e]
    exact hr'.cell hjl)
  have hst := run_storeCells_at Yba.prog w.heap.size 0 34 ((List.range (n * 2)).map f) 0 (list0 n) (w.alloc (.cells (list0 n) 34)) (Deep.blk_alloc_new _ _) (by
      have hs : (list0 n).size = n * 2 := size_madeCells _ _
      simp [hs]) (by
    intro v hv
    obtain ⟨j, hj, rfl⟩ := List.mem_map.1 hv
    have hjl : j < n * 2 := by simpa using hj
    by_cases e : j % 2 = 0
    · have := (hf (j / 2) (by omega)).1
      rw [show j / 2 * 2 = j by omega] at this
      rw [this]; rfl
    · have := (hf (j / 2) (by omega)).2
      rw [show j / 2 * 2 + 1 = j by omega] at this
      rw [this]; rfl)
  rw [hlen] at hl
  have hs : (list0 n).size = n * 2 := size_madeCells _ _
  have e : ((list0 n).toList.take (0 + 0) ++ (List.range (n * 2)).map f ++ (list0 n).toList.drop (0 + 0 + ((List.range (n * 2)).map f).length)).toArray = ((List.range (n * 2)).map f).toArray := by
    have hd : (list0 n).toList.drop (n * 2) = [] := List.drop_eq_nil_of_le (by simp [hs])
    simp [hd]
  rw [setRow_alloc, e] at hst
  refine ⟨((List.range (n * 2)).map f).toArray, fun ty => ?_, ⟨f, ⟨_, Deep.blk_alloc_new _ _, by simp, fun j hj => by simp [hj]⟩, hf⟩⟩
  simp [Builtin.copy_, run_underlying Yba.underlying30, Builtin.lenOf, Builtin.firstCells, sizeOf, typeInfo, hi, his, hl, hst, goInt]
set_option maxRecDepth 100000 in
set_option maxHeartbeats 400000 in
theorem b_cut_kept (w0 w : World) (d c t l n p : Nat) (A D E : Nat → Int) (h : Laid w0 w d c t l n A D E) (hn : n ≤ 1024) (hp : p < n) (hE : 0 ≤ E (n - 1) ∧ E (n - 1) < 1024) :
    Calls Yba.prog 12 #[.pointer (some ⟨t, 0, none⟩), .slice (some ⟨l, 0, none⟩) n n, .int .u32 p] w fun e w' => e = .returned (.slice (some ⟨l, 0, none⟩) (n - 1) n) ∧
      Laid w0 w' d c t l n (fun j => if j = (E (n - 1)).toNat then p else A j) (fun j => if j = p then D (n - 1) else D j) (fun j => if j = p then E (n - 1) else E j) ∧
      (∀ k, k < w.heap.size → k ≠ d → k ≠ l → w'.heap[k]? = w.heap[k]?) := by
  have l0 := h.list.cell0 (k := n - 1) (by omega)
  have l1 := h.list.cell1 (k := n - 1) (by omega)
  have p0 := h.list.cell0 hp
  have p1 := h.list.cell1 hp
  have q0 := h.list.free (p * 2)
  have q1 := h.list.free (p * 2 + 1)
  obtain ⟨x, hx⟩ : ∃ x, x = D (n - 1) := ⟨_, rfl⟩
  obtain ⟨y, hy⟩ : ∃ y, y = E (n - 1) := ⟨_, rfl⟩
  rw [← hx] at l0
  rw [← hy] at l1 hE
  have HX : Hid (x = D (n - 1)) := hx
  have HY : Hid (y = E (n - 1)) := hy
  clear hx hy
  have hyl : y.toNat < 1024 := by omega
  have m0 := h.chunk.cell (k := y.toNat) hyl
  have m1 := h.chunk.free (y.toNat * 5 + 3)
  have tt := h.top
  have tl := h.lev
  have hcl := lt_of_cell tt
  have htl := lt_of_cell tl
  have hll := h.list.lt
  have hdl := h.chunk.lt
  obtain ⟨a1, a2, a3, a4, a5, a6⟩ := h.apart
  simp only at hcl htl
  have hs := (laid_set h hp x y).alloc (by simpa [World.setCell] using h.below.size) (.cells #[.int .u64 x, .int .u32 y] 34) (by simpa [World.setCell] using hcl) (by simpa [World.setCell] using htl)
  have hf := ((laid_set h hp x y).mark (k := y.toNat) hyl p).alloc (by simpa [World.setCell] using h.below.size) (.cells #[.int .u64 x, .int .u32 y] 34) (by simpa [World.setCell] using hcl) (by simpa [World.setCell] using htl)
  have st := hs.top
  have sl := hs.lev
  clear h hs
  go_enter Yba.func12, Yba.ntmps12
  go_wp2
  go_region_with (go_at_call 17; refine (b_at t c d y _ (by exact sl) (by exact st) hE.1 hE.2).mono ?_; rintro e w' ⟨rfl, rfl⟩)
  go_wp2
  go_ret
  refine ⟨rfl, ?_, fun k h1 h2 h3 => ?_⟩
  · rw [← HX.out, ← HY.out]
    exact hf.drew
  · refine Eq.trans (b := (World.alloc _ _).heap[k]?) rfl ?_
    rw [Deep.blk_alloc_lt _ _ _ (by simpa [World.setCell] using h1), Deep.blk_setCell_other _ _ _ _ h2, Deep.blk_setCell_other _ _ _ _ h3, Deep.blk_setCell_other _ _ _ _ h3]

end Go.Proofs.Ybulkafty
