/-
  get: walked.
-/
import Derived.Test.YbulkafygRem
namespace Go.Proofs.Ybulkafyg
open Go.RowKit

/-- what get finds -/
def lookM (last ents : List (Key × Value)) (i : Nat) (k : Key) : Option Value :=
  match last[i]? with
  | some p => if k = p.1 then some p.2 else findK ents k
  | none => findK ents k
def hitB (last : List (Key × Value)) (i : Nat) (k : Key) : Bool := match last[i]? with | some p => decide (k = p.1) | none => false
theorem lookM_rem {last ents : List (Key × Value)} {i : Nat} {k : Key} {v : Value} (h : findK ents k = some v) : lookM (remL last i k v) ents i k = some v := by
  unfold remL
  by_cases h1 : i < last.length
  · rw [if_pos h1]; simp [lookM, h1]
  · rw [if_neg h1]
    by_cases h2 : i = last.length
    · rw [if_pos h2]; simp [lookM, h2]
    · rw [if_neg h2]
      simp [lookM, List.getElem?_eq_none (show last.length ≤ i by omega), h]
theorem findK_mem {l : List (Key × Value)} {k : Key} {v : Value} (h : findK l k = some v) : (k, v) ∈ l := by
  unfold findK at h
  obtain ⟨p, hp, hv⟩ := Option.map_eq_some_iff.1 h
  have h1 := List.find?_some hp
  have h2 := List.mem_of_find?_eq_some hp
  simp at h1
  rw [h1, ← hv]
  exact h2

set_option maxRecDepth 100000 in
set_option maxHeartbeats 400000 in
theorem c_mget {Res : Key → List Lab} {N0 M : Nat} {lim : Int} {last ents : List (Key × Value)} {lv mv : Value} (i : Nat) (k : Key) (pa pb : Option Addr) (w : World) (hi : i < 8)
    (h : MemoIs Res N0 M lim w last ents lv mv) (hk : Live58 w k) (ha : Hid (ptrV k.a = .pointer pa)) (hb : Hid (ptrV k.b = .pointer pb)) :
    Calls Yba.prog 13 #[.pointer (some ⟨M, 6, none⟩), .int .i64 i, .agg #[.pointer pa, .int .i64 k.n, .pointer pb, .int .i64 k.m]] w fun e w' => ∃ gv gb, e = .returned (.tuple #[gv, .bool gb]) ∧ Chg w w' (Sw N0 w) ∧ ∃ last' lv', MemoIs Res N0 M lim w' last' ents lv' mv ∧
      (gb = true → Good Res w' k gv ∧ lookM last ents i k = some gv ∧ lookM last' ents i k = some gv) ∧ (gb = false → lookM last ents i k = none) := by
  go_enter Yba.func13, Yba.ntmps13
  have hg := h.grow ((Chg.refl w _).alloc (.cells #[.pointer pa, .int .i64 k.n, .pointer pb, .int .i64 k.m] 86))
  have hcg : Chg w (w.alloc (.cells #[.pointer pa, .int .i64 k.n, .pointer pb, .int .i64 k.m] 86)) (Sw N0 w) := (Chg.refl w _).alloc _
  have hk1 := hk.chg hcg
  have t : (w.alloc (.cells #[.pointer pa, .int .i64 k.n, .pointer pb, .int .i64 k.m] 86)).heap[w.heap.size]? = some (.cells #[.pointer pa, .int .i64 k.n, .pointer pb, .int .i64 k.m] 86) := Deep.blk_alloc_new _ _
  go_upto_region 1 with fail
  generalize hT : w.heap.size = T at t ⊢
  have ht0 : (w.alloc (.cells #[.pointer pa, .int .i64 k.n, .pointer pb, .int .i64 k.m] 86)).cell? ⟨T, 0, none⟩ = some (.pointer pa) := by rw [cell_of_row _ T 0 _ _ _ t]; rfl
  have ht1 : (w.alloc (.cells #[.pointer pa, .int .i64 k.n, .pointer pb, .int .i64 k.m] 86)).cell? ⟨T, 1, none⟩ = some (.int .i64 k.n) := by rw [cell_of_row _ T 1 _ _ _ t]; rfl
  have ht2 : (w.alloc (.cells #[.pointer pa, .int .i64 k.n, .pointer pb, .int .i64 k.m] 86)).cell? ⟨T, 2, none⟩ = some (.pointer pb) := by rw [cell_of_row _ T 2 _ _ _ t]; rfl
  have ht3 : (w.alloc (.cells #[.pointer pa, .int .i64 k.n, .pointer pb, .int .i64 k.m] 86)).cell? ⟨T, 3, none⟩ = some (.int .i64 k.m) := by rw [cell_of_row _ T 3 _ _ _ t]; rfl
  clear hT t h hk
  generalize (w.alloc (.cells #[.pointer pa, .int .i64 k.n, .pointer pb, .int .i64 k.m] 86)) = w1 at hg hcg hk1 ht0 ht1 ht2 ht3 ⊢
  obtain ⟨ao, cp, rfl⟩ : ∃ ao cp, lv = .slice ao last.length cp := by
    rcases hg.own.2 with ⟨h0, h1⟩ | ⟨g, cap, cur, h0, _⟩
    · exact ⟨none, 0, by rw [h0, h1]⟩
    · exact ⟨_, cap, h0⟩
  have c8 := hg.blk.c8
  have c6 := hg.blk.c6
  have hlen := hg.len
  have hkv : Hid (keyV k = .agg #[.pointer pa, .int .i64 k.n, .pointer pb, .int .i64 k.m]) := by
    show keyV k = _
    unfold keyV keyC; rw [ha.out, hb.out]
  have hgd86 : Yba.prog.eqGuardType Yba.prog.depth 86 = false := by kernel_rfl
  have hlk : ∀ q, (Instr.lookup 69 mv (.agg #[.pointer pa, .int .i64 k.n, .pointer pb, .int .i64 k.m]) true).run Yba.prog (w1.drewN q) = .ok (.tuple #[(findK ents k).getD (.slice none 0 0), .bool (findK ents k).isSome]) (w1.drewN q) := fun q => by
    rw [← hkv.out]
    exact lookup69 k (w1.drewN q) mv ents (Live58.live (w := w1.drewN q) hk1) (fun p hp => Live58.live (w := w1.drewN q) (hg.oke p hp).1) hg.map
  go_cut [28] from 10 to 27 (fun v wc => v = .bool (hitB last i k) ∧ ∃ q, wc = w1.drewN q)
  case first =>
    by_cases hlt : i < last.length
    · obtain ⟨G, cap, hG, _, _⟩ := hg.own.form (by omega)
      cases hG
      have hd : decide ((i : Int) < (last.length : Int)) = true := by simp; omega
      obtain ⟨p, hp⟩ : ∃ p, last[i]? = some p := ⟨_, List.getElem?_eq_getElem hlt⟩
      obtain ⟨q0, q1, q2, q3, q4⟩ := cellsM_get last i p hp
      have hpm : p ∈ last := List.mem_of_getElem? hp
      obtain ⟨pa', hpa⟩ : ∃ pa', Hid (ptrV p.1.a = .pointer pa') := ⟨_, rfl⟩
      obtain ⟨pb', hpb⟩ : ∃ pb', Hid (ptrV p.1.b = .pointer pb') := ⟨_, rfl⟩
      rw [hpa.out] at q0
      rw [hpb.out] at q2
      have d0 := (hg.own.cellAt (i * 5) (by omega)).trans q0
      have d1 := (hg.own.cellAt (i * 5 + 1) (by omega)).trans q1
      have d2 := (hg.own.cellAt (i * 5 + 2) (by omega)).trans q2
      have d3 := (hg.own.cellAt (i * 5 + 3) (by omega)).trans q3
      have heq : ∀ q, (Op.equalIn 10000 86 (.agg #[.pointer pa', .int .i64 p.1.n, .pointer pb', .int .i64 p.1.m]) (.agg #[.pointer pa, .int .i64 k.n, .pointer pb, .int .i64 k.m])).run Yba.prog (w1.drewN q) = .ok (decide (k = p.1)) (w1.drewN q) := fun q => by
        have := eq86 p.1 k (w1.drewN q) (Live58.live (w := w1.drewN q) (hg.okl p hpm).1) (Live58.live (w := w1.drewN q) hk1)
        rw [hkv.out, show decide (p.1 = k) = decide (k = p.1) by simp [eq_comm]] at this
        unfold keyV keyC at this
        rw [hpa.out, hpb.out] at this
        exact this
      generalize hnn : last.length = L at hd c8 ⊢
      have i2 : (i : Int) < (L : Int) := by omega
      have hp' : Hid (last[i]? = some p) := hp
      clear hp q0 q1 q2 q3 q4 hnn
      go_quiet (fail)
      go_wp2
      go_meet
      exact ⟨by unfold hitB; rw [hp'.out], _, rfl⟩
    · have hd : decide ((i : Int) < (last.length : Int)) = false := by simp; omega
      have hp' : Hid (last[i]? = none) := List.getElem?_eq_none (by omega)
      go_quiet (fail)
      go_wp2
      go_meet
      exact ⟨by unfold hitB; rw [hp'.out], _, rfl⟩
  case rest =>
    obtain ⟨rfl, q, rfl⟩ := hcut
    have hg2 := hg.grow ((Chg.refl w1 _).drewN q)
    have hcg2 : Chg w (w1.drewN q) (Sw N0 w) := hcg.drewN q
    obtain ⟨hit, hhit⟩ : ∃ hit, Hid (hit = hitB last i k) := ⟨_, rfl⟩
    rw [← hhit.out]
    cases hit with
    | true =>
      obtain ⟨p, hp, hkp⟩ : ∃ p, last[i]? = some p ∧ k = p.1 := by
        have := hhit.out
        unfold hitB at this
        cases hx : last[i]? with
        | none => rw [hx] at this; cases this
        | some p => rw [hx] at this; exact ⟨p, rfl, of_decide_eq_true this.symm⟩
      have hlt : i < last.length := by
        rcases Nat.lt_or_ge i last.length with h | h
        · exact h
        · rw [List.getElem?_eq_none h] at hp; cases hp
      obtain ⟨G, cap, hG, _, _⟩ := hg.own.form (by omega)
      cases hG
      obtain ⟨q0, q1, q2, q3, q4⟩ := cellsM_get last i p hp
      have hpm : p ∈ last := List.mem_of_getElem? hp
      have d4 := (hg.own.cellAt (i * 5 + 4) (by omega)).trans q4
      have hgood : Good Res (w1.drewN q) k p.2 := by rw [hkp]; exact (hg2.okl p hpm).2
      have hlook : lookM last ents i k = some p.2 := by unfold lookM; rw [hp]; simp [hkp]
      have hHG : Hid (lookM last ents i k = some p.2) := hlook
      generalize hnn : last.length = L at c8 hg2 ⊢
      have i2 : (i : Int) < (L : Int) := by omega
      clear hp q0 q1 q2 q3 q4 hnn hkp hlook hlk
      go_wp2
      go_ret2
      exact ⟨_, _, rfl, hcg2, last, _, hg2, fun _ => ⟨hgood, hHG.out, hHG.out⟩, fun e => by cases e⟩
    | false =>
      have hnl : lookM last ents i k = findK ents k := by
        unfold lookM
        have := hhit.out
        unfold hitB at this
        cases hx : last[i]? with
        | none => rfl
        | some p => rw [hx] at this; simp only; rw [if_neg (of_decide_eq_false this.symm)]
      have HNL : Hid (lookM last ents i k = findK ents k) := hnl
      clear hnl hhit
      have hlk2 := fun n => hlk (q + n)
      cases hf : findK ents k with
      | some v =>
        have hokv := hg2.oke (k, v) (findK_mem hf)
        obtain ⟨g, C, n, f, hv, _, _, _⟩ := hokv.2
        dsimp only at hv
        subst hv
        rw [hf] at hlk
        simp only [Option.getD_some, Option.isSome_some] at hlk
        have hff : Hid (findK ents k = some (.slice (some ⟨g, 0, none⟩) n C)) := hf
        clear hf hlk2
        go_upto_region 3 with fail
        go_quiet (fail)
        have hg3 := hg.grow ((Chg.refl w1 _).drewN (q + nq))
        have hcg3 : Chg w (w1.drewN (q + nq)) (Sw N0 w) := hcg.drewN (q + nq)
        have hokv3 : Okp Res (w1.drewN (q + nq)) (k, .slice (some ⟨g, 0, none⟩) n C) := hokv
        go_wp2_with fail
        refine (c_remember i k pa pb (some ⟨g, 0, none⟩) n C _ hi hg3 hokv3 ha hb).mono ?_
        rintro e w4 ⟨rfl, lv', hm4, hc4⟩
        have hgood : Good Res w4 k (.slice (some ⟨g, 0, none⟩) n C) := hokv3.2.chg hc4
        have hlook := lookM_rem (last := last) (i := i) hff.out
        go_wp2
        go_ret2
        exact ⟨_, _, rfl, Sw.trans hcg3 hc4, _, lv', hm4, fun _ => ⟨hgood, HNL.out.trans hff.out, hlook⟩, fun e => by cases e⟩
      | none =>
        rw [hf] at hlk
        simp only [Option.getD_none, Option.isSome_none] at hlk
        have hff : Hid (findK ents k = none) := hf
        clear hf hlk2
        go_upto_region 3 with fail
        go_quiet (fail)
        go_wp2
        go_ret2
        exact ⟨_, _, rfl, hcg2.drewN nq, last, _, hg2.grow ((Chg.refl _ _).drewN nq), (fun e => by cases e), fun _ => by rw [HNL.out, hff.out]⟩
end Go.Proofs.Ybulkafyg
