/-
  The memo: its state in memory; remember.
-/
import Derived.Test.YbulkafygMap
import Derived.Laws.OwnMore
import Derived.Deep.RegionLaw
namespace Go.Proofs.Ybulkafyg
open Go.RowKit

/-- what the memo may write: blocks from N0 on that are no rows of labels and no keys -/
def Sw (N0 : Nat) (w : World) (k : Nat) : Prop := N0 ≤ k ∧ (∀ c, w.heap[k]? ≠ some (.cells c 58 (0, 0))) ∧ ∀ c, w.heap[k]? ≠ some (.cells c 86 (0, 0))
theorem Sw.trans {N0 : Nat} {w w' w'' : World} (h : Chg w w' (Sw N0 w)) (h' : Chg w' w'' (Sw N0 w')) : Chg w w'' (Sw N0 w) :=
  h.trans h' (fun k hk => by
    rcases Nat.lt_or_ge k w.heap.size with hlt | hge
    · by_cases hs : Sw N0 w k
      · exact .inl hs
      · have e := h.block k hlt hs
        exact .inl ⟨hk.1, fun c hc => hk.2.1 c (by rw [e]; exact hc), fun c hc => hk.2.2 c (by rw [e]; exact hc)⟩
    · exact .inr hge)
theorem LRow.notSw {N0 : Nat} {w : World} {g n : Nat} {f : Nat → Lab} (h : LRow w g n f) : ¬ Sw N0 w g := by
  obtain ⟨N, v, _, ⟨c, hb, _, _⟩, _⟩ := h
  exact fun hs => hs.2.1 c hb

/-- the pointers of the key lead to rows of labels -/
def Live58 (w : World) (k : Key) : Prop := ∀ g, k.a = some g ∨ k.b = some g → ∃ c, w.heap[g]? = some (.cells c 58 (0, 0))
theorem Live58.live {w : World} {k : Key} (h : Live58 w k) : Live w k :=
  ⟨fun g hg => by obtain ⟨c, hc⟩ := h g (.inl hg); exact ⟨c, 58, hc⟩, fun g hg => by obtain ⟨c, hc⟩ := h g (.inr hg); exact ⟨c, 58, hc⟩⟩
/-- the value is a row of labels that solves the key -/
def Good (Res : Key → List Lab) (w : World) (k : Key) (v : Value) : Prop := ∃ g C n h, v = .slice (some ⟨g, 0, none⟩) n C ∧ n ≤ 1000 ∧ LRow w g n h ∧ Sol (lst h n) (Res k)
def Okp (Res : Key → List Lab) (w : World) (p : Key × Value) : Prop := Live58 w p.1 ∧ Good Res w p.1 p.2
theorem blk_lt {w : World} {k : Nat} {o : Obj} (h : w.heap[k]? = some o) : k < w.heap.size := by
  rcases Nat.lt_or_ge k w.heap.size with hlt | hge
  · exact hlt
  · rw [Array.getElem?_eq_none hge] at h; cases h
theorem Live58.chg {N0 : Nat} {w w' : World} {k : Key} (h : Live58 w k) (hc : Chg w w' (Sw N0 w)) : Live58 w' k := fun g hg => by
  obtain ⟨c, hb⟩ := h g hg
  exact ⟨c, (hc.block g (blk_lt hb) (fun hs => hs.2.1 c hb)).trans hb⟩
theorem Good.chg {Res : Key → List Lab} {N0 : Nat} {w w' : World} {k : Key} {v : Value} (h : Good Res w k v) (hc : Chg w w' (Sw N0 w)) : Good Res w' k v := by
  obtain ⟨g, C, n, f, hv, hn, hr, hs⟩ := h
  exact ⟨g, C, n, f, hv, hn, hr.chg hc hr.notSw, hs⟩
theorem Okp.chg {Res : Key → List Lab} {N0 : Nat} {w w' : World} {p : Key × Value} (h : Okp Res w p) (hc : Chg w w' (Sw N0 w)) : Okp Res w' p := ⟨h.1.chg hc, h.2.chg hc⟩

/-- the cells of the places -/
def cellsM (l : List (Key × Value)) : List Value := l.flatMap fun p => [ptrV p.1.a, .int .i64 p.1.n, ptrV p.1.b, .int .i64 p.1.m, p.2]
theorem cellsM_length (l : List (Key × Value)) : (cellsM l).length = l.length * 5 := by
  unfold cellsM
  induction l with
  | nil => rfl
  | cons x L ih => simp [List.flatMap_cons] at *; omega
theorem cellsM_snoc (l : List (Key × Value)) (p : Key × Value) : cellsM (l ++ [p]) = cellsM l ++ [ptrV p.1.a, .int .i64 p.1.n, ptrV p.1.b, .int .i64 p.1.m, p.2] := by simp [cellsM]
theorem cellsM_get : ∀ (l : List (Key × Value)) (i : Nat) (p : Key × Value), l[i]? = some p →
    (cellsM l)[i * 5]? = some (ptrV p.1.a) ∧ (cellsM l)[i * 5 + 1]? = some (.int .i64 p.1.n) ∧ (cellsM l)[i * 5 + 2]? = some (ptrV p.1.b) ∧ (cellsM l)[i * 5 + 3]? = some (.int .i64 p.1.m) ∧ (cellsM l)[i * 5 + 4]? = some p.2
  | [], i, p, h => by simp at h
  | x :: l, 0, p, h => by simp at h; subst h; exact ⟨rfl, rfl, rfl, rfl, rfl⟩
  | x :: l, i + 1, p, h => by
    have := cellsM_get l i p (by simpa using h)
    rw [show (i + 1) * 5 = i * 5 + 5 by omega]
    exact this
theorem cellsM_set : ∀ (l : List (Key × Value)) (i : Nat) (p : Key × Value), i < l.length →
    (((((cellsM l).set (i * 5) (ptrV p.1.a)).set (i * 5 + 1) (.int .i64 p.1.n)).set (i * 5 + 2) (ptrV p.1.b)).set (i * 5 + 3) (.int .i64 p.1.m)).set (i * 5 + 4) p.2 = cellsM (l.set i p)
  | [], i, p, h => by simp at h
  | x :: l, 0, p, h => rfl
  | x :: l, i + 1, p, h => by
    have := cellsM_set l i p (by simpa using h)
    rw [show (i + 1) * 5 = i * 5 + 5 by omega]
    have e : cellsM (x :: l) = ptrV x.1.a :: .int .i64 x.1.n :: ptrV x.1.b :: .int .i64 x.1.m :: x.2 :: cellsM l := by simp [cellsM]
    rw [e]
    show ptrV x.1.a :: .int .i64 x.1.n :: ptrV x.1.b :: .int .i64 x.1.m :: x.2 :: _ = _
    rw [this]
    simp [cellsM]

/-- the block of the memos -/
def MBlk (M : Nat) (w : World) (mv : Value) (lim : Int) (lv : Value) : Prop := ∃ N g, 9 ≤ N ∧ w.rowIs M 81 N g ∧ g 6 = mv ∧ g 7 = .int .i64 lim ∧ g 8 = lv
section
variable {M : Nat} {w w' : World} {mv lv : Value} {lim : Int}
theorem MBlk.c6 (h : MBlk M w mv lim lv) : w.cell? ⟨M, 6, none⟩ = some mv := by obtain ⟨N, g, hN, hr, h6, h7, h8⟩ := h; rw [hr.cell (by omega), h6]
theorem MBlk.c7 (h : MBlk M w mv lim lv) : w.cell? ⟨M, 7, none⟩ = some (.int .i64 lim) := by obtain ⟨N, g, hN, hr, h6, h7, h8⟩ := h; rw [hr.cell (by omega), h7]
theorem MBlk.c8 (h : MBlk M w mv lim lv) : w.cell? ⟨M, 8, none⟩ = some lv := by obtain ⟨N, g, hN, hr, h6, h7, h8⟩ := h; rw [hr.cell (by omega), h8]
theorem MBlk.free (h : MBlk M w mv lim lv) (i : Nat) : w.frozen? ⟨M, i, none⟩ = false := by obtain ⟨N, g, hN, hr, _⟩ := h; exact hr.frozen i
theorem MBlk.lt (h : MBlk M w mv lim lv) : M < w.heap.size := by obtain ⟨N, g, hN, hr, _⟩ := h; exact hr.lt
theorem MBlk.at81 (h : MBlk M w mv lim lv) : ∃ c, w.heap[M]? = some (.cells c 81 (0, 0)) := by obtain ⟨N, g, hN, ⟨c, hb, _⟩, _⟩ := h; exact ⟨c, hb⟩
theorem MBlk.of_block (h : MBlk M w mv lim lv) (e : w'.heap[M]? = w.heap[M]?) : MBlk M w' mv lim lv := by obtain ⟨N, g, hN, hr, hg⟩ := h; exact ⟨N, g, hN, hr.of_block e, hg⟩
theorem MBlk.set8 (h : MBlk M w mv lim lv) (v : Value) : MBlk M (w.setCell ⟨M, 8, none⟩ v) mv lim v := by
  obtain ⟨N, g, hN, hr, h6, h7, h8⟩ := h
  exact ⟨N, _, hN, hr.set 8 v, by simpa using h6, by simpa using h7, by simp⟩
theorem MBlk.set6 (h : MBlk M w mv lim lv) (v : Value) : MBlk M (w.setCell ⟨M, 6, none⟩ v) v lim lv := by
  obtain ⟨N, g, hN, hr, h6, h7, h8⟩ := h
  exact ⟨N, _, hN, hr.set 6 v, by simp, by simpa using h7, by simpa using h8⟩
end
/-- the memo's state -/
structure MemoIs (Res : Key → List Lab) (N0 M : Nat) (lim : Int) (w : World) (last ents : List (Key × Value)) (lv mv : Value) : Prop where
  blk : MBlk M w mv lim lv
  ge : N0 ≤ M
  map : MapIs w mv ents
  mapge : ∀ R, mv = .map (some R) → N0 ≤ R
  own : w.ownsRow N0 94 5 lv last.length (cellsM last)
  len : last.length ≤ 8
  okl : ∀ p ∈ last, Okp Res w p
  oke : ∀ p ∈ ents, Okp Res w p

theorem own_of_block {w w' : World} {base : Nat} {e : TypeId} {size : Nat} {v : Value} {n : Nat} {xs : List Value} (h : w.ownsRow base e size v n xs) (hb : ∀ k, v.ownBlock = some k → w'.heap[k]? = w.heap[k]?) : w'.ownsRow base e size v n xs := by
  refine ⟨h.1, ?_⟩
  rcases h.2 with h0 | ⟨g, cap, cur, hv, hg, hk, h1, h2, h3, h4⟩
  · exact .inl h0
  · exact .inr ⟨g, cap, cur, hv, hg, (hb g (by rw [hv]; rfl)).trans hk, h1, h2, h3, h4⟩
theorem own_block {w : World} {base : Nat} {e : TypeId} {size : Nat} {v : Value} {n : Nat} {xs : List Value} (h : w.ownsRow base e size v n xs) : ∀ k, v.ownBlock = some k → base ≤ k ∧ ∃ c, w.heap[k]? = some (.cells c e (0, 0)) := by
  intro k hk
  rcases h.2 with ⟨h0, _⟩ | ⟨g, cap, cur, hv, hg, hb, _⟩
  · rw [h0] at hk; cases hk
  · rw [hv] at hk; cases hk; exact ⟨hg, cur, hb⟩
section
variable {Res : Key → List Lab} {N0 M : Nat} {lim : Int} {w w' : World} {last ents : List (Key × Value)} {lv mv : Value}
theorem MemoIs.turn (_h : MemoIs Res N0 M lim w last ents lv mv) {last' ents' : List (Key × Value)} {lv' mv' : Value} (hc : Chg w w' (Sw N0 w)) (hb : MBlk M w' mv' lim lv') (hm : MapIs w' mv' ents') (hmg : ∀ R, mv' = .map (some R) → N0 ≤ R)
    (ho : w'.ownsRow N0 94 5 lv' last'.length (cellsM last')) (hl : last'.length ≤ 8) (h1 : ∀ p ∈ last', Okp Res w p) (h2 : ∀ p ∈ ents', Okp Res w p) : MemoIs Res N0 M lim w' last' ents' lv' mv' :=
  ⟨hb, _h.ge, hm, hmg, ho, hl, fun p hp => (h1 p hp).chg hc, fun p hp => (h2 p hp).chg hc⟩
theorem MapIs.of_block {v : Value} {l : List (Key × Value)} (h : MapIs w v l) (e : ∀ R, v = .map (some R) → w'.heap[R]? = w.heap[R]?) : MapIs w' v l := by
  rcases h with h0 | ⟨R, es, cl, hv, hk, he⟩
  · exact .inl h0
  · exact .inr ⟨R, es, cl, hv, (e R hv).trans hk, he⟩
theorem MapIs.at {l : List (Key × Value)} {R : Nat} (h : MapIs w (.map (some R)) l) : ∃ es cl, w.heap[R]? = some (.map es cl) ∧ EntsAre es l := by
  rcases h with ⟨h0, _⟩ | ⟨R', es, cl, hv, hk, he⟩
  · cases h0
  · cases hv; exact ⟨es, cl, hk, he⟩
/-- new blocks only -/
theorem MemoIs.grow (h : MemoIs Res N0 M lim w last ents lv mv) (hc : Chg w w' (fun _ => False)) : MemoIs Res N0 M lim w' last ents lv mv := by
  refine h.turn (hc.mono fun _ e => e.elim) (h.blk.of_block (hc.block M h.blk.lt (fun e => e))) (h.map.of_block fun R hR => ?_) h.mapge (own_of_block h.own fun k hk => ?_) h.len h.okl h.oke
  · obtain ⟨es, cl, hk, _⟩ := (hR ▸ h.map).at
    exact hc.block R (blk_lt hk) (fun e => e)
  · obtain ⟨_, c, hb⟩ := own_block h.own k hk
    exact hc.block k (blk_lt hb) (fun e => e)
theorem MemoIs.neLM (h : MemoIs Res N0 M lim w last ents lv mv) : ∀ k, lv.ownBlock = some k → k ≠ M := by
  intro k hk e
  obtain ⟨_, c, hb⟩ := own_block h.own k hk
  obtain ⟨c', hb'⟩ := h.blk.at81
  rw [e, hb'] at hb
  cases hb
theorem MemoIs.neLR (h : MemoIs Res N0 M lim w last ents lv mv) : ∀ k R, lv.ownBlock = some k → mv = .map (some R) → k ≠ R := by
  intro k R hk hR e
  obtain ⟨_, c, hb⟩ := own_block h.own k hk
  obtain ⟨es, cl, hb', _⟩ := (hR ▸ h.map).at
  rw [e, hb'] at hb
  cases hb
theorem MemoIs.neMR (h : MemoIs Res N0 M lim w last ents lv mv) : ∀ R, mv = .map (some R) → M ≠ R := by
  intro R hR e
  obtain ⟨c, hb⟩ := h.blk.at81
  obtain ⟨es, cl, hb', _⟩ := (hR ▸ h.map).at
  rw [e, hb'] at hb
  cases hb
theorem MemoIs.swL (h : MemoIs Res N0 M lim w last ents lv mv) : ∀ k, lv.ownBlock = some k → Sw N0 w k := by
  intro k hk
  obtain ⟨hg, c, hb⟩ := own_block h.own k hk
  exact ⟨hg, fun c' hc => (by rw [hb] at hc; cases hc), fun c' hc => (by rw [hb] at hc; cases hc)⟩
theorem MemoIs.swM (h : MemoIs Res N0 M lim w last ents lv mv) : Sw N0 w M := by
  obtain ⟨c, hb⟩ := h.blk.at81
  exact ⟨h.ge, fun c' hc => (by rw [hb] at hc; cases hc), fun c' hc => (by rw [hb] at hc; cases hc)⟩
theorem MemoIs.swR (h : MemoIs Res N0 M lim w last ents lv mv) : ∀ R, mv = .map (some R) → Sw N0 w R := by
  intro R hR
  obtain ⟨es, cl, hb', _⟩ := (hR ▸ h.map).at
  exact ⟨h.mapge R hR, fun c' hc => (by rw [hb'] at hc; cases hc), fun c' hc => (by rw [hb'] at hc; cases hc)⟩

/-- the five cells of a place -/
def setP (w : World) (G i : Nat) (k : Key) (v : Value) : World :=
  ((((w.setCell ⟨G, i * 5, none⟩ (ptrV k.a)).setCell ⟨G, i * 5 + 1, none⟩ (.int .i64 k.n)).setCell ⟨G, i * 5 + 2, none⟩ (ptrV k.b)).setCell ⟨G, i * 5 + 3, none⟩ (.int .i64 k.m)).setCell ⟨G, i * 5 + 4, none⟩ v
theorem setP_chg (w : World) (G i : Nat) (k : Key) (v : Value) : Chg w (setP w G i k v) (fun j => j = G) :=
  (((((Chg.refl w (fun j => j = G)).setCell (a := ⟨G, i * 5, none⟩) (.inl rfl) _).setCell (a := ⟨G, i * 5 + 1, none⟩) (.inl rfl) _).setCell (a := ⟨G, i * 5 + 2, none⟩) (.inl rfl) _).setCell (a := ⟨G, i * 5 + 3, none⟩) (.inl rfl) _).setCell (a := ⟨G, i * 5 + 4, none⟩) (.inl rfl) _
theorem MemoIs.store {G cap : Nat} (h : MemoIs Res N0 M lim w last ents (.slice (some ⟨G, 0, none⟩) last.length cap) mv) {i : Nat} (hi : i < last.length) {k : Key} {v : Value} (hok : Okp Res w (k, v)) :
    MemoIs Res N0 M lim (setP w G i k v) (last.set i (k, v)) ents (.slice (some ⟨G, 0, none⟩) last.length cap) mv ∧ Chg w (setP w G i k v) (Sw N0 w) := by
  have hc := setP_chg w G i k v
  have hcs : Chg w (setP w G i k v) (Sw N0 w) := hc.mono (fun j e => by subst e; exact h.swL j rfl)
  refine ⟨h.turn hcs (h.blk.of_block (hc.block M h.blk.lt (fun e => h.neLM G rfl e.symm))) (h.map.of_block fun R hR => ?_) h.mapge ?_ (by simpa using h.len) (fun p hp => ?_) h.oke, hcs⟩
  · obtain ⟨es, cl, hk, _⟩ := (hR ▸ h.map).at
    exact hc.block R (blk_lt hk) (fun e => h.neLR G R rfl hR e.symm)
  · have o1 := (h.own.stored (i * 5) (ptrV k.a)).1
    have o2 := (o1.stored (i * 5 + 1) (.int .i64 k.n)).1
    have o3 := (o2.stored (i * 5 + 2) (ptrV k.b)).1
    have o4 := (o3.stored (i * 5 + 3) (.int .i64 k.m)).1
    have o5 := (o4.stored (i * 5 + 4) v).1
    rw [cellsM_set last i (k, v) hi] at o5
    rw [List.length_set]
    exact o5
  · rcases List.mem_or_eq_of_mem_set hp with h' | h'
    · exact h.okl p h'
    · rw [h']; exact hok
end
end Go.Proofs.Ybulkafyg
