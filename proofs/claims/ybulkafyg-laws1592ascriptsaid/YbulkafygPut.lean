/-
  put: walked.
-/
import Derived.Test.YbulkafygGet
namespace Go.Proofs.Ybulkafyg
open Go.RowKit

section
variable {Res : Key → List Lab} {N0 M : Nat} {lim : Int} {w w' : World} {last ents : List (Key × Value)} {lv mv : Value}
/-- a new map -/
theorem MemoIs.fresh (h : MemoIs Res N0 M lim w last ents lv mv) : MemoIs Res N0 M lim ((w.alloc (.map #[] 0)).setCell ⟨M, 6, none⟩ (.map (some w.heap.size))) last [] lv (.map (some w.heap.size)) ∧ Chg w ((w.alloc (.map #[] 0)).setCell ⟨M, 6, none⟩ (.map (some w.heap.size))) (Sw N0 w) := by
  have hM := h.blk.lt
  have hc1 : Chg w (w.alloc (.map #[] 0)) (fun _ => False) := (Chg.refl w _).alloc _
  have hc : Chg w ((w.alloc (.map #[] 0)).setCell ⟨M, 6, none⟩ (.map (some w.heap.size))) (Sw N0 w) := ((Chg.refl w (Sw N0 w)).alloc _).setCell (a := ⟨M, 6, none⟩) (.inl h.swM) _
  have h1 := h.grow hc1
  refine ⟨h.turn hc (h1.blk.set6 _) (.inr ⟨w.heap.size, #[], 0, rfl, ?_, rfl⟩) (fun R hR => ?_) ?_ h.len h.okl (fun p hp => by cases hp), hc⟩
  · rw [Deep.blk_setCell_other _ _ _ _ (by show w.heap.size ≠ M; omega)]
    exact Deep.blk_alloc_new _ _
  · cases hR
    have := h.ge
    omega
  · refine own_of_block h1.own (fun k hk => ?_)
    exact Deep.blk_setCell_other _ _ _ _ (h.neLM k hk)
/-- an entry written -/
theorem MemoIs.upd {R : Nat} (h : MemoIs Res N0 M lim w last ents lv (.map (some R))) {es' : Array MapEntry} {cl' : Nat} {ents' : List (Key × Value)} (he : EntsAre es' ents') (ho : ∀ p ∈ ents', Okp Res w p) :
    MemoIs Res N0 M lim (putB w R (.map es' cl')) last ents' lv (.map (some R)) ∧ Chg w (putB w R (.map es' cl')) (Sw N0 w) := by
  have hc := putB_chg w R (.map es' cl')
  have hcs : Chg w (putB w R (.map es' cl')) (Sw N0 w) := hc.mono (fun j e => by subst e; exact h.swR j rfl)
  obtain ⟨es, cl, hR, _⟩ := h.map.at
  refine ⟨h.turn hcs (h.blk.of_block (hc.block M h.blk.lt (h.neMR R rfl))) (.inr ⟨R, es', cl', rfl, putB_at (blk_lt hR), he⟩) h.mapge (own_of_block h.own fun k hk => ?_) h.len h.okl ho, hcs⟩
  obtain ⟨_, c, hb⟩ := own_block h.own k hk
  exact hc.block k (blk_lt hb) (h.neLR k R hk rfl)
end

set_option maxRecDepth 100000 in
set_option maxHeartbeats 400000 in
theorem c_put {Res : Key → List Lab} {N0 M : Nat} {lim : Int} {last ents : List (Key × Value)} {lv mv : Value} (i : Nat) (k : Key) (pa pb : Option Addr) (a : Option Addr) (n c : Nat) (w : World) (hi : i < 8) (hlim : 0 ≤ lim) (hlim2 : lim < 1000)
    (h : MemoIs Res N0 M lim w last ents lv mv) (hok : Okp Res w (k, .slice a n c)) (ha : Hid (ptrV k.a = .pointer pa)) (hb : Hid (ptrV k.b = .pointer pb)) :
    Calls Yba.prog 15 #[.pointer (some ⟨M, 6, none⟩), .int .i64 i, .agg #[.pointer pa, .int .i64 k.n, .pointer pb, .int .i64 k.m], .slice a n c] w fun e w' => e = .returned (.tuple #[]) ∧ Chg w w' (Sw N0 w) ∧
      ∃ last' ents' lv' mv', MemoIs Res N0 M lim w' last' ents' lv' mv' ∧ (0 < lim → lookM last' ents' i k = some (.slice a n c)) := by
  go_enter Yba.func15, Yba.ntmps15
  have hg := h.grow ((Chg.refl w _).alloc (.cells #[.pointer pa, .int .i64 k.n, .pointer pb, .int .i64 k.m] 86))
  have hcg : Chg w (w.alloc (.cells #[.pointer pa, .int .i64 k.n, .pointer pb, .int .i64 k.m] 86)) (Sw N0 w) := (Chg.refl w _).alloc _
  have hok1 := hok.chg hcg
  have t : (w.alloc (.cells #[.pointer pa, .int .i64 k.n, .pointer pb, .int .i64 k.m] 86)).heap[w.heap.size]? = some (.cells #[.pointer pa, .int .i64 k.n, .pointer pb, .int .i64 k.m] 86) := Deep.blk_alloc_new _ _
  go_upto_region 1 with fail
  generalize hT : w.heap.size = T at t ⊢
  have hTM : T ≠ M := by have := h.blk.lt; omega
  clear hT h hok
  generalize (w.alloc (.cells #[.pointer pa, .int .i64 k.n, .pointer pb, .int .i64 k.m] 86)) = w1 at hg hcg hok1 t ⊢
  have c7 := hg.blk.c7
  by_cases hl0 : lim = 0
  · subst hl0
    clear t
    go_wp2
    refine bodyPost_ret (results_none rfl _ _ _) rfl ?_
    exact ⟨rfl, hcg, last, ents, lv, mv, hg, fun e => by omega⟩
  · have hd0 : (lim == 0) = false := by simpa using hl0
    have c6 := hg.blk.c6
    go_upto_region 2 with fail
    go_cut [29] from 13 to 28 (fun v wc => ∃ bb, v = .bool bb ∧ (bb = false → ∃ R, mv = .map (some R)) ∧ ∃ q, wc = w1.drewN q)
    case first =>
      have hn1 : ∀ w : World, (binOp BinOp.eql 69 (.map none) (.map none)).run Yba.prog w = .ok (.bool true) w := fun _ => by kernel_rfl
      have hn2 : ∀ (R : Nat) (w : World), (binOp BinOp.eql 69 (.map (some R)) (.map none)).run Yba.prog w = .ok (.bool false) w := fun _ _ => by kernel_rfl
      rcases hg.map with ⟨rfl, _⟩ | ⟨R, es, cl, rfl, hR, _⟩
      · go_quiet (fail)
        go_wp2
        go_meet
        exact ⟨true, rfl, (fun e => by cases e), _, rfl⟩
      · have hlm : ∀ (q : Nat) (ty : TypeId), (Builtin.len_ #[69] ty #[.map (some R)]).run Yba.prog (w1.drewN q) = .ok (.int .i64 (es.size : Int)) (w1.drewN q) := fun q ty => by
          have hRq : (w1.drewN q).heap[R]? = some (.map es cl) := hR
          simp [Builtin.len_, run_underlying Yba.underlying69, getM hRq, goInt]
        by_cases hge : lim ≤ (es.size : Int)
        · have hd1 : decide (lim ≤ (es.size : Int)) = true := by simpa using hge
          go_quiet (fail)
          go_wp2
          go_meet
          exact ⟨_, rfl, fun _ => ⟨R, rfl⟩, _, rfl⟩
        · have hd1 : decide (lim ≤ (es.size : Int)) = false := by simpa using hge
          go_quiet (fail)
          go_wp2
          go_meet
          exact ⟨_, rfl, fun _ => ⟨R, rfl⟩, _, rfl⟩
    case rest =>
      obtain ⟨bb, rfl, hbb, q, rfl⟩ := hcut
      have hg2 := hg.grow ((Chg.refl w1 _).drewN q)
      have hcg2 : Chg w (w1.drewN q) (Sw N0 w) := hcg.drewN q
      have hok2 : Okp Res (w1.drewN q) (k, .slice a n c) := hok1
      have t2 : (w1.drewN q).heap[T]? = some (.cells #[.pointer pa, .int .i64 k.n, .pointer pb, .int .i64 k.m] 86) := t
      clear hg hcg hok1 t c6 c7
      generalize w1.drewN q = w2 at hg2 hcg2 hok2 t2 ⊢
      have c6 := hg2.blk.c6
      have f6 := hg2.blk.free 6
      go_upto_if 29 with fail
      go_cut [] from 30 to 33 (fun wc => ∃ ents2 R, MemoIs Res N0 M lim wc last ents2 lv (.map (some R)) ∧ Chg w2 wc (Sw N0 w2) ∧ wc.heap[T]? = some (.cells #[.pointer pa, .int .i64 k.n, .pointer pb, .int .i64 k.m] 86))
      case first =>
        cases bb with
        | true =>
          have hmk : (Instr.makeMap 69 none).run Yba.prog w2 = .ok (.map (some w2.heap.size)) (w2.alloc (.map #[] 0)) := rfl
          obtain ⟨hf1, hf2⟩ := hg2.fresh
          have hM := hg2.blk.lt
          have hTl := blk_lt t2
          have tt : ((w2.alloc (.map #[] 0)).setCell ⟨M, 6, none⟩ (.map (some w2.heap.size))).heap[T]? = some (.cells #[.pointer pa, .int .i64 k.n, .pointer pb, .int .i64 k.m] 86) :=
            (Deep.blk_setCell_other _ _ _ _ hTM).trans ((Deep.blk_alloc_lt _ _ _ hTl).trans t2)
          rw [World.setCell_alloc_past _ _ _ _ hM] at hf1 hf2 tt
          go_wp2
          go_meet
          exact ⟨[], _, hf1, hf2, tt⟩
        | false =>
          obtain ⟨R, rfl⟩ := hbb rfl
          go_wp2
          go_meet
          exact ⟨ents, R, hg2, Chg.refl _ _, t2⟩
      case rest =>
        obtain ⟨ents2, R, hg3, hc3, t3⟩ := hcut
        have hcg3 := Sw.trans hcg2 hc3
        have hok3 := hok2.chg hc3
        clear hg2 hcg2 hok2 t2 c6 f6 hc3
        rename World => w3
        obtain ⟨es, cl, hR, hes⟩ := hg3.map.at
        have hkv : Hid (keyV k = .agg #[.pointer pa, .int .i64 k.n, .pointer pb, .int .i64 k.m]) := by
          show keyV k = _
          unfold keyV keyC; rw [ha.out, hb.out]
        obtain ⟨es', cl', ents', hrun, he', hf', hm'⟩ := update69 k w3.drew R es cl (.slice a n c) ents2 (Live58.live (w := w3.drew) hok3.1) (fun p hp => Live58.live (w := w3.drew) (hg3.oke p hp).1) hR hes
        rw [hkv.out] at hrun
        have hg4 := hg3.grow ((Chg.refl w3 _).drew)
        have hok4 : Okp Res w3.drew (k, .slice a n c) := hok3
        obtain ⟨hg5, hc5⟩ := hg4.upd (cl' := cl') he' (fun p hp => by
          rcases hm' p hp with rfl | h
          · exact hok4
          · exact hg4.oke p h)
        have ht0 : w3.cell? ⟨T, 0, none⟩ = some (.pointer pa) := by rw [cell_of_row _ T 0 _ _ _ t3]; rfl
        have ht1 : w3.cell? ⟨T, 1, none⟩ = some (.int .i64 k.n) := by rw [cell_of_row _ T 1 _ _ _ t3]; rfl
        have ht2 : w3.cell? ⟨T, 2, none⟩ = some (.pointer pb) := by rw [cell_of_row _ T 2 _ _ _ t3]; rfl
        have ht3 : w3.cell? ⟨T, 3, none⟩ = some (.int .i64 k.m) := by rw [cell_of_row _ T 3 _ _ _ t3]; rfl
        have hTR : T ≠ R := by rintro rfl; rw [t3] at hR; cases hR
        have tp : (putB w3.drew R (.map es' cl')).heap[T]? = some (.cells #[.pointer pa, .int .i64 k.n, .pointer pb, .int .i64 k.m] 86) := ((putB_chg w3.drew R (.map es' cl')).block T (blk_lt t3) hTR).trans t3
        have hs0 : (putB w3.drew R (.map es' cl')).cell? ⟨T, 0, none⟩ = some (.pointer pa) := by rw [cell_of_row _ T 0 _ _ _ tp]; rfl
        have hs1 : (putB w3.drew R (.map es' cl')).cell? ⟨T, 1, none⟩ = some (.int .i64 k.n) := by rw [cell_of_row _ T 1 _ _ _ tp]; rfl
        have hs2 : (putB w3.drew R (.map es' cl')).cell? ⟨T, 2, none⟩ = some (.pointer pb) := by rw [cell_of_row _ T 2 _ _ _ tp]; rfl
        have hs3 : (putB w3.drew R (.map es' cl')).cell? ⟨T, 3, none⟩ = some (.int .i64 k.m) := by rw [cell_of_row _ T 3 _ _ _ tp]; rfl
        have hcg5 := Sw.trans (hcg3.drew) hc5
        have hok5 := hok4.chg hc5
        have c6 := hg3.blk.c6
        have hff : Hid (findK ents' k = some (.slice a n c)) := hf'
        clear hf' hm' hg4 hok4 t3 tp he' hR hes
        go_wp2
        go_region
        all_goals
          go_wp2_with fail
          refine (c_remember i k pa pb a n c _ hi hg5 hok5 ha hb).mono ?_
          rintro e w6 ⟨rfl, lv', hm6, hc6⟩
          have hlook := lookM_rem (last := last) (i := i) hff.out
          go_wp2
          go_end0
          exact ⟨rfl, Sw.trans hcg5 hc6, _, ents', lv', _, hm6, fun _ => hlook⟩
end Go.Proofs.Ybulkafyg
