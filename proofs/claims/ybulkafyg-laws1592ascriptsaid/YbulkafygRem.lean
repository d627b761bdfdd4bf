/-
  remember: walked.
-/
import Derived.Test.YbulkafygMemo
import Derived.Deep.AppendLies
namespace Go.Proofs.Ybulkafyg
open Go.RowKit

/-- what remember makes of the places -/
def remL (last : List (Key × Value)) (i : Nat) (k : Key) (v : Value) : List (Key × Value) :=
  if i < last.length then last.set i (k, v) else if i = last.length then last ++ [(k, v)] else last

theorem MemoIs.pushed {Res : Key → List Lab} {N0 M : Nat} {lim : Int} {last ents : List (Key × Value)} {lv mv : Value} {w w2 : World} (hg : MemoIs Res N0 M lim w last ents lv mv) {k : Key} {v : Value} (hok : Okp Res w (k, v)) (o : Obj) {g c2 : Nat}
    (ho : w2.ownsRow N0 94 5 (.slice (some ⟨g, 0, none⟩) (last.length + 1) c2) (last.length + 1) (cellsM last ++ [ptrV k.a, .int .i64 k.n, ptrV k.b, .int .i64 k.m, v])) (hgr : (w.alloc o).drew.grownBy w2 lv.ownBlock)
    (hat : lv.ownBlock = some g ∨ g = w.heap.size + 1) (hl : last.length < 8) :
    MemoIs Res N0 M lim (w2.setCell ⟨M, 8, none⟩ (.slice (some ⟨g, 0, none⟩) (last.length + 1) c2)) (last ++ [(k, v)]) ents (.slice (some ⟨g, 0, none⟩) (last.length + 1) c2) mv ∧ Chg w (w2.setCell ⟨M, 8, none⟩ (.slice (some ⟨g, 0, none⟩) (last.length + 1) c2)) (Sw N0 w) := by
  have hM := hg.blk.lt
  have h2 : Chg w w2 (fun j => lv.ownBlock = some j) := (((Chg.refl w (fun j => lv.ownBlock = some j)).alloc o).drew).grown hgr (fun j hj => .inl hj)
  have hgM : g ≠ M := by
    rcases hat with h | h
    · exact hg.neLM g h
    · omega
  have hc : Chg w (w2.setCell ⟨M, 8, none⟩ (.slice (some ⟨g, 0, none⟩) (last.length + 1) c2)) (Sw N0 w) := (h2.mono (S' := Sw N0 w) (fun j hj => hg.swL j hj)).setCell (a := ⟨M, 8, none⟩) (.inl hg.swM) _
  have eM : w2.heap[M]? = w.heap[M]? := h2.block M hM (fun e => hg.neLM M e rfl)
  refine ⟨hg.turn hc ((hg.blk.of_block eM).set8 _) (hg.map.of_block fun R hR => ?_) hg.mapge ?_ (by simp; omega) (fun p hp => ?_) hg.oke, hc⟩
  · obtain ⟨es, cl, hk, _⟩ := (hR ▸ hg.map).at
    exact (Deep.blk_setCell_other _ _ _ _ (fun e => hg.neMR R hR e.symm)).trans (h2.block R (blk_lt hk) (fun e => hg.neLR R R e hR rfl))
  · rw [cellsM_snoc, List.length_append]
    refine own_of_block ho (fun j hj => ?_)
    cases hj
    exact Deep.blk_setCell_other _ _ _ _ hgM
  · rcases List.mem_append.1 hp with h | h
    · exact hg.okl p h
    · rw [show p = (k, v) by simpa using h]; exact hok

theorem info94 : (Yba.prog.info? 94).map (fun i => (i.zero.map (fun z => z.cells.size), i.size, i.bytes)) = some (some 5, 5, 56) := by kernel_rfl

set_option maxRecDepth 100000 in
set_option maxHeartbeats 400000 in
theorem c_remember {Res : Key → List Lab} {N0 M : Nat} {lim : Int} {last ents : List (Key × Value)} {lv mv : Value} (i : Nat) (k : Key) (pa pb : Option Addr) (a : Option Addr) (n c : Nat) (w : World) (hi : i < 8)
    (h : MemoIs Res N0 M lim w last ents lv mv) (hok : Okp Res w (k, .slice a n c)) (ha : Hid (ptrV k.a = .pointer pa)) (hb : Hid (ptrV k.b = .pointer pb)) :
    Calls Yba.prog 17 #[.pointer (some ⟨M, 6, none⟩), .int .i64 i, .agg #[.pointer pa, .int .i64 k.n, .pointer pb, .int .i64 k.m], .slice a n c] w fun e w' => e = .returned (.tuple #[]) ∧ ∃ lv', MemoIs Res N0 M lim w' (remL last i k (.slice a n c)) ents lv' mv ∧ Chg w w' (Sw N0 w) := by
  go_enter Yba.func17, Yba.ntmps17
  have hg := h.grow ((Chg.refl w _).alloc (.cells #[.pointer pa, .int .i64 k.n, .pointer pb, .int .i64 k.m] 86))
  have hcg : Chg w (w.alloc (.cells #[.pointer pa, .int .i64 k.n, .pointer pb, .int .i64 k.m] 86)) (Sw N0 w) := (Chg.refl w _).alloc _
  have hok1 := hok.chg hcg
  have t : (w.alloc (.cells #[.pointer pa, .int .i64 k.n, .pointer pb, .int .i64 k.m] 86)).heap[w.heap.size]? = some (.cells #[.pointer pa, .int .i64 k.n, .pointer pb, .int .i64 k.m] 86) := Deep.blk_alloc_new _ _
  go_upto_region 1 with fail
  generalize hT : w.heap.size = T at t ⊢
  have ht0 : (w.alloc (.cells #[.pointer pa, .int .i64 k.n, .pointer pb, .int .i64 k.m] 86)).cell? ⟨T, 0, none⟩ = some (.pointer pa) := by rw [cell_of_row _ T 0 _ _ _ t]; rfl
  have ht1 : (w.alloc (.cells #[.pointer pa, .int .i64 k.n, .pointer pb, .int .i64 k.m] 86)).cell? ⟨T, 1, none⟩ = some (.int .i64 k.n) := by rw [cell_of_row _ T 1 _ _ _ t]; rfl
  have ht2 : (w.alloc (.cells #[.pointer pa, .int .i64 k.n, .pointer pb, .int .i64 k.m] 86)).cell? ⟨T, 2, none⟩ = some (.pointer pb) := by rw [cell_of_row _ T 2 _ _ _ t]; rfl
  have ht3 : (w.alloc (.cells #[.pointer pa, .int .i64 k.n, .pointer pb, .int .i64 k.m] 86)).cell? ⟨T, 3, none⟩ = some (.int .i64 k.m) := by rw [cell_of_row _ T 3 _ _ _ t]; rfl
  clear hT t h hok
  generalize (w.alloc (.cells #[.pointer pa, .int .i64 k.n, .pointer pb, .int .i64 k.m] 86)) = w1 at hg hcg hok1 ht0 ht1 ht2 ht3 ⊢
  obtain ⟨ao, cp, rfl⟩ : ∃ ao cp, lv = .slice ao last.length cp := by
    rcases hg.own.2 with ⟨h0, h1⟩ | ⟨g, cap, cur, h0, _⟩
    · exact ⟨none, 0, by rw [h0, h1]⟩
    · exact ⟨_, cap, h0⟩
  have c8 := hg.blk.c8
  have hlen := hg.len
  rcases Nat.lt_trichotomy i last.length with hlt | heq | hgt
  · obtain ⟨G, cap, hG, _, _⟩ := hg.own.form (by omega)
    cases hG
    obtain ⟨hst, hcs⟩ := hg.store (i := i) hlt hok1
    have hrem : Hid (remL last i k (.slice a n c) = last.set i (k, .slice a n c)) := by show remL last i k (.slice a n c) = _; unfold remL; rw [if_pos hlt]
    have hd : decide ((i : Int) < (last.length : Int)) = true := by simp; omega
    obtain ⟨p, hp⟩ : ∃ p, last[i]? = some p := ⟨_, List.getElem?_eq_getElem hlt⟩
    obtain ⟨q0, q1, q2, q3, q4⟩ := cellsM_get last i p hp
    have d0 := (hg.own.cellAt (i * 5) (by omega)).trans q0
    have d1 := (hg.own.cellAt (i * 5 + 1) (by omega)).trans q1
    have d2 := (hg.own.cellAt (i * 5 + 2) (by omega)).trans q2
    have d3 := (hg.own.cellAt (i * 5 + 3) (by omega)).trans q3
    have d4 := (hg.own.cellAt (i * 5 + 4) (by omega)).trans q4
    have e0 := hg.own.frozenAt (i * 5)
    have e1 := hg.own.frozenAt (i * 5 + 1)
    have e2 := hg.own.frozenAt (i * 5 + 2)
    have e3 := hg.own.frozenAt (i * 5 + 3)
    have e4 := hg.own.frozenAt (i * 5 + 4)
    unfold setP at hst hcs
    rw [ha.out, hb.out] at hst hcs
    generalize hnn : last.length = L at hd c8 ⊢
    have i2 : (i : Int) < (L : Int) := by omega
    clear hg hok1 hp q0 q1 q2 q3 q4
    go_wp2
    go_region
    all_goals
      go_wp2
      go_end0
      exact ⟨rfl, _, by rw [hrem.out]; exact hst.grow ((Chg.refl _ _).drew), Sw.trans hcg hcs.drew⟩
  · subst heq
    have hrem : Hid (remL last last.length k (.slice a n c) = last ++ [(k, .slice a n c)]) := by
      show remL last last.length k (.slice a n c) = _
      unfold remL; rw [if_neg (by omega), if_pos rfl]
    obtain ⟨i0, hi0, hz⟩ := Option.map_eq_some_iff.1 info94
    simp only [Prod.mk.injEq] at hz
    obtain ⟨hz, hsz, hby⟩ := hz
    obtain ⟨z0, hz1, hz2⟩ := Option.map_eq_some_iff.1 hz
    have hown := hg.own
    have f8 := hg.blk.free 8
    have hnM := hg.neLM
    have hM := hg.blk.lt
    have hN := hg.ge
    generalize hnn : last.length = L at c8 hown hnM hi hlen ⊢
    have HL : Hid (last.length = L) := hnn
    clear hnn
    have hd : decide ((L : Int) < (L : Int)) = false := by simp
    go_wp2
    go_region_law (refine step_append_lies _ rfl (.tmp 37) (.tmp 41) 70 rfl N0 94 i0 z0 5 56 Yba.underlying70 hi0 hz1 hsz hby hz2 (by decide) (.slice ao L cp) L (cellsM last) (by simp [Act.eval]) (hown.drew.alloc _) ⟨w1.heap.size, 0, none⟩ 1 1 [.pointer pa, .int .i64 k.n, .pointer pb, .int .i64 k.m, .slice a n c] (by simp [Act.eval]) rfl (fun j u hu => World.news_of_block (Deep.blk_alloc_new _ _) j u (by simpa using hu)) (by intro u hu; simp at hu; rcases hu with rfl | rfl | rfl | rfl | rfl <;> rfl) (by omega) (by unfold maxLen; omega) (by omega) (by simp; omega) _ rfl ?_; intro g2 c2 w2 ho2 hgr2 hat2 hlt2; have eM2 := hgr2.block M (by simp; omega) (fun e => hnM M e.symm rfl); have m8 : w2.cell? ⟨M, 8, none⟩ = some (.slice ao L cp) := (World.cell?_of_block eM2).trans ((World.cell?_of_block (Deep.blk_alloc_lt _ _ _ hM)).trans c8); have r8 : w2.frozen? ⟨M, 8, none⟩ = false := (World.frozen?_of_block eM2).trans ((World.frozen?_of_block (Deep.blk_alloc_lt _ _ _ hM)).trans f8))
    all_goals
      rw [← ha.out, ← hb.out] at ho2 hgr2
      rw [← HL.out] at ho2 hgr2 hat2
      have hfin := hg.pushed hok1 _ ho2 hgr2 (hat2.imp id (fun e => e.trans (by simp))) (by rw [HL.out]; exact hi)
      rw [HL.out] at hfin
      go_wp2
      go_end0
      exact ⟨rfl, _, by rw [hrem.out]; exact hfin.1, Sw.trans hcg hfin.2⟩
  · have hd : decide ((i : Int) < (last.length : Int)) = false := by simp; omega
    have hd2 : ((i : Int) == (last.length : Int)) = false := by simp; omega
    have hrem : Hid (remL last i k (.slice a n c) = last) := by
      show remL last i k (.slice a n c) = _
      unfold remL; rw [if_neg (by omega), if_neg (by omega)]
    go_wp2
    go_end0
    exact ⟨rfl, _, by rw [hrem.out]; exact hg, hcg⟩
end Go.Proofs.Ybulkafyg
