/-
  id, pairLabels: walked.
-/
import Derived.Test.YbulkafygPut
namespace Go.Proofs.Ybulkafyg
open Go.RowKit

def ptrO (g n : Nat) : Option Nat := if n = 0 then none else some g
def keyOf (g n g' n' : Nat) : Key := ⟨ptrO g n, n, ptrO g' n', n'⟩

set_option maxRecDepth 100000 in
theorem c_id (g n C : Nat) (w : World) (hn : n ≤ 1000000) (pa : Option Addr) (hpa : Hid (ptrV (ptrO g n) = .pointer pa)) :
    Calls Yba.prog 12 #[.slice (some ⟨g, 0, none⟩) n C] w fun e w' => e = .returned (.agg #[.pointer pa, .int .i64 n]) ∧ Chg w w' (fun _ => False) := by
  go_enter Yba.func12, Yba.ntmps12
  by_cases h0 : n = 0
  · subst h0
    have e : Hid (pa = none) := by have := hpa.out; simp [ptrV, ptrO] at this; exact this.symm
    go_wp2
    refine bodyPost_ret (by simp [results, Yba.results12, go_sem]; try rfl) rfl ?_
    exact ⟨by rw [e.out]; rfl, ((Chg.refl w _).alloc _)⟩
  · have e : Hid (pa = some ⟨g, 0, none⟩) := by have := hpa.out; simp [ptrV, ptrO, h0] at this; exact this.symm
    have hd : ((n : Int) == 0) = false := by simp; omega
    have hd2 : (0 : Int) < (n : Int) := by omega
    go_wp2
    refine bodyPost_ret (by simp [results, Yba.results12, go_sem]; try rfl) rfl ?_
    exact ⟨by rw [e.out], ((Chg.refl w _).alloc _)⟩

theorem StrV.sw {w w' : World} {v : Value} {n : Nat} {s : Nat → ByteArray} {N0 : Nat} (h : StrV w v n s) (hN : ∀ k, v.ownBlock = some k → k < N0) (hc : Chg w w' (Sw N0 w)) : StrV w' v n s :=
  h.chg hc (fun k hk e => by have := hN k hk; have := e.1; omega)
theorem live_of_rows {w : World} {gM nM gO nO : Nat} {fM fO : Nat → Lab} (hM : LRow w gM nM fM) (hO : LRow w gO nO fO) : Live58 w (keyOf gM nM gO nO) := by
  intro g hg
  have h1 : ∃ c, w.heap[gM]? = some (.cells c 58 (0, 0)) := by obtain ⟨N, v, _, ⟨c, hb, _, _⟩, _⟩ := hM; exact ⟨c, hb⟩
  have h2 : ∃ c, w.heap[gO]? = some (.cells c 58 (0, 0)) := by obtain ⟨N, v, _, ⟨c, hb, _, _⟩, _⟩ := hO; exact ⟨c, hb⟩
  unfold keyOf ptrO at hg
  rcases hg with hg | hg
  · dsimp only at hg
    split at hg
    · cases hg
    · cases hg; exact h1
  · dsimp only at hg
    split at hg
    · cases hg
    · cases hg; exact h2

set_option maxRecDepth 100000 in
set_option maxHeartbeats 400000 in
theorem c_pair {Res : Key → List Lab} {N0 M : Nat} {lim : Int} {last ents : List (Key × Value)} {lv mv : Value} (i B O : Nat) (ar rb on : Bool) (c : Int) (nm inc : Value) (nN : Nat) (sN : Nat → ByteArray) (nI : Nat) (sI : Nat → ByteArray) (gM CM nM : Nat) (fM : Nat → Lab) (gO CO nO : Nat) (fO : Nat → Lab) (w : World)
    (hi : i < 8) (hlim : 0 ≤ lim) (hlim2 : lim < 1000) (hm : MemoIs Res N0 M lim w last ents lv mv)
    (hB : BEx w B O ar rb on c nm inc) (hN : StrV w nm nN sN) (hI : StrV w inc nI sI) (hM : LRow w gM nM fM) (hO : LRow w gO nO fO) (bI : nI ≤ 256) (bM : nM ≤ 256) (bO : nO ≤ 256)
    (lB : B < N0) (lO : O < N0) (lN : ∀ k, nm.ownBlock = some k → k < N0) (lI : ∀ k, inc.ownBlock = some k → k < N0)
    (hRes : Hid (Res (keyOf gM nM gO nO) = (baseL (ar || rb) (c == 0) on nN sN nI sI nM fM nO fO).filter neV)) :
    Calls Yba.prog 9 #[.pointer (some ⟨B, 0, none⟩), .pointer (some ⟨M, 0, none⟩), .int .i64 i, .slice (some ⟨gM, 0, none⟩) nM CM, .slice (some ⟨gO, 0, none⟩) nO CO] w fun e w' => ∃ v, e = .returned v ∧ Good Res w' (keyOf gM nM gO nO) v ∧ Chg w w' (Sw N0 w) ∧
      (∀ u, lookM last ents i (keyOf gM nM gO nO) = some u → v = u) ∧ ∃ last' ents' lv' mv', MemoIs Res N0 M lim w' last' ents' lv' mv' ∧ (0 < lim → lookM last' ents' i (keyOf gM nM gO nO) = some v) := by
  obtain ⟨pa, ha⟩ : ∃ pa, Hid (ptrV (ptrO gM nM) = .pointer pa) := ⟨_, rfl⟩
  obtain ⟨pb, hb⟩ : ∃ pb, Hid (ptrV (ptrO gO nO) = .pointer pb) := ⟨_, rfl⟩
  have hbd : ∀ (pa pb : Option Addr) (n m : Int) (w : World), (Instr.build 86 #[(0, .agg #[.pointer pa, .int .i64 n]), (1, .agg #[.pointer pb, .int .i64 m])]).run Yba.prog w = .ok (.agg #[.pointer pa, .int .i64 n, .pointer pb, .int .i64 m]) w := fun _ _ _ _ _ => by kernel_rfl
  go_enter Yba.func9, Yba.ntmps9
  go_wp2_with fail
  refine (c_id gM nM CM w (by omega) pa ha).mono ?_
  rintro e w1 ⟨rfl, hc1⟩
  go_wp2_with fail
  refine (c_id gO nO CO w1 (by omega) pb hb).mono ?_
  rintro e w2 ⟨rfl, hc2⟩
  have hc02 : Chg w w2 (fun _ => False) := hc1.trans hc2 (fun _ e => e.elim)
  have hc03 : Chg w (w2.alloc (.cells #[.pointer pa, .int .i64 nM, .pointer pb, .int .i64 nO] 86)) (fun _ => False) := hc02.alloc _
  have t : (w2.alloc (.cells #[.pointer pa, .int .i64 nM, .pointer pb, .int .i64 nO] 86)).heap[w2.heap.size]? = some (.cells #[.pointer pa, .int .i64 nM, .pointer pb, .int .i64 nO] 86) := Deep.blk_alloc_new _ _
  go_upto_region 2 with fail
  generalize hT : w2.heap.size = T at t ⊢
  generalize (w2.alloc (.cells #[.pointer pa, .int .i64 nM, .pointer pb, .int .i64 nO] 86)) = w3 at hc03 t ⊢
  clear hT hc1 hc2 hc02 hbd
  have hg3 := hm.grow hc03
  have hc03s : Chg w w3 (Sw N0 w) := hc03.mono (fun _ e => e.elim)
  have hM3 := hM.chg hc03 (fun e => e)
  have hO3 := hO.chg hc03 (fun e => e)
  have hk3 := live_of_rows hM3 hO3
  have ht0 : w3.cell? ⟨T, 0, none⟩ = some (.pointer pa) := by rw [cell_of_row _ T 0 _ _ _ t]; rfl
  have ht1 : w3.cell? ⟨T, 1, none⟩ = some (.int .i64 nM) := by rw [cell_of_row _ T 1 _ _ _ t]; rfl
  have ht2 : w3.cell? ⟨T, 2, none⟩ = some (.pointer pb) := by rw [cell_of_row _ T 2 _ _ _ t]; rfl
  have ht3 : w3.cell? ⟨T, 3, none⟩ = some (.int .i64 nO) := by rw [cell_of_row _ T 3 _ _ _ t]; rfl
  go_cut [12, 13] from 20 to 28 (fun gv gbv wc => ∃ gb last' lv', gbv = .bool gb ∧ Chg w3 wc (Sw N0 w3) ∧ MemoIs Res N0 M lim wc last' ents lv' mv ∧
      (gb = true → Good Res wc (keyOf gM nM gO nO) gv ∧ lookM last ents i (keyOf gM nM gO nO) = some gv ∧ lookM last' ents i (keyOf gM nM gO nO) = some gv) ∧ (gb = false → lookM last ents i (keyOf gM nM gO nO) = none))
  case first =>
    have hg4 := hg3.grow ((Chg.refl w3 _).drew)
    have hk4 : Live58 w3.drew (keyOf gM nM gO nO) := hk3
    have hcall := c_mget i (keyOf gM nM gO nO) pa pb w3.drew hi hg4 hk4 ha hb
    go_region_with (go_at_call 13; refine hcall.mono ?_; rintro e w5 ⟨gv, gb, rfl, hc5, last', lv', hm5, h51, h52⟩)
    all_goals
      go_wp2_with fail
      go_meet
      exact ⟨gb, last', lv', rfl, Sw.trans ((Chg.refl w3 _).drew) hc5, hm5, h51, h52⟩
  case rest =>
    obtain ⟨gb, last', lv', rfl, hc5, hm5, h51, h52⟩ := hcut
    rename World => w5
    have hc05 := Sw.trans hc03s hc5
    cases gb with
    | true =>
      obtain ⟨hgood, hl1, hl2⟩ := h51 rfl
      have hl1 : Hid (_ = _) := hl1
      have hl2 : Hid (_ = _) := hl2
      clear h51 h52
      go_wp2
      go_ret
      exact ⟨_, rfl, hgood, hc05, (fun u hu => by rw [hl1.out] at hu; cases hu; rfl), last', ents, lv', mv, hm5, fun _ => hl2.out⟩
    | false =>
      have hnone : Hid (lookM last ents i (keyOf gM nM gO nO) = none) := h52 rfl
      have nB : ∀ k, k < N0 → ¬ Sw N0 w k := fun k hk e => by have := e.1; omega
      have hB5 := hB.chg hc05 (nB _ lB) (nB _ lO)
      have hN5 := hN.sw lN hc05
      have hI5 := hI.sw lI hc05
      have hM5 := hM.chg hc05 hM.notSw
      have hO5 := hO.chg hc05 hO.notSw
      have t5 : w5.heap[T]? = some (.cells #[.pointer pa, .int .i64 nM, .pointer pb, .int .i64 nO] 86) := (hc5.block T (blk_lt t) (fun e => e.2.2 _ t)).trans t
      clear h51 h52
      go_wp2_with fail
      refine (c_result B O ar rb on c nm inc nN sN nI sI gM CM nM fM gO CO nO fO w5 hB5 hN5 hI5 hM5 hO5 bI bM bO).mono ?_
      rintro e w6 ⟨g, C, k2, f2, rfl, hk2, hge, hr6, hsol, hc6⟩
      rw [← hRes.out] at hsol
      have hm6 := hm5.grow hc6
      have hM6 := hM5.chg hc6 (fun e => e)
      have hO6 := hO5.chg hc6 (fun e => e)
      have hok6 : Okp Res w6 (keyOf gM nM gO nO, .slice (some ⟨g, 0, none⟩) k2 C) := ⟨live_of_rows hM6 hO6, g, C, k2, f2, rfl, hk2, hr6, hsol⟩
      have t6 : w6.heap[T]? = some (.cells #[.pointer pa, .int .i64 nM, .pointer pb, .int .i64 nO] 86) := (hc6.block T (blk_lt t5) (fun e => e)).trans t5
      have hc06 : Chg w w6 (Sw N0 w) := Sw.trans hc05 (hc6.mono (fun _ e => e.elim))
      have hu0 : w6.cell? ⟨T, 0, none⟩ = some (.pointer pa) := by rw [cell_of_row _ T 0 _ _ _ t6]; rfl
      have hu1 : w6.cell? ⟨T, 1, none⟩ = some (.int .i64 nM) := by rw [cell_of_row _ T 1 _ _ _ t6]; rfl
      have hu2 : w6.cell? ⟨T, 2, none⟩ = some (.pointer pb) := by rw [cell_of_row _ T 2 _ _ _ t6]; rfl
      have hu3 : w6.cell? ⟨T, 3, none⟩ = some (.int .i64 nO) := by rw [cell_of_row _ T 3 _ _ _ t6]; rfl
      have hm7 := hm6.grow ((Chg.refl w6 _).drew)
      have hok7 : Okp Res w6.drew (keyOf gM nM gO nO, .slice (some ⟨g, 0, none⟩) k2 C) := hok6
      have hcall := c_put i (keyOf gM nM gO nO) pa pb (some ⟨g, 0, none⟩) k2 C w6.drew hi hlim hlim2 hm7 hok7 ha hb
      clear ht0 ht1 ht2 ht3 t t5 t6 hsol hr6 hok6 hm6 hm7 hM6 hO6 hB5 hN5 hI5 hM5 hO5
      go_wp2_with fail
      go_region_with (go_at_call 15; refine hcall.mono ?_; rintro e w8 ⟨rfl, hc8, last8, ents8, lv8, mv8, hm8, hl8⟩)
      all_goals
        have hc08 : Chg w w8 (Sw N0 w) := Sw.trans (hc06.drew) hc8
        have hgood8 : Good Res w8 (keyOf gM nM gO nO) (.slice (some ⟨g, 0, none⟩) k2 C) := hok7.2.chg hc8
        go_wp2
        go_ret
        exact ⟨_, rfl, hgood8, hc08, (fun u hu => by rw [hnone.out] at hu; cases hu), last8, ents8, lv8, mv8, hm8, hl8⟩
end Go.Proofs.Ybulkafyg
