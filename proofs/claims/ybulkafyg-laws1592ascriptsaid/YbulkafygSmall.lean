/-
  eq, labels, Clone, newNodeMemos: walked.
-/
import Derived.Test.YbulkafygPair
namespace Go.Proofs.Ybulkafyg
open Go.RowKit

theorem lst_inj {f f' : Nat → Lab} {n n' : Nat} (h : lst f n = lst f' n') : n = n' ∧ ∀ i, i < n → f i = f' i := by
  have hn : n = n' := by have := congrArg List.length h; rwa [length_lst, length_lst] at this
  subst hn
  refine ⟨rfl, fun i hi => ?_⟩
  have := congrArg (fun L => L[i]?) h
  simpa [lst, seg, hi] using this

theorem eq58 (x : Lab) (w : World) : (Op.equalIn 10000 58 (.agg #[.string x.1, .string x.2]) (.agg #[.string x.1, .string x.2])).run Yba.prog w = .ok true w := by
  have u9 := Yba.underlying9
  have hS : Yba.prog.underlying 58 = some (.struct (Yba.prog.fieldsOf 58)) := by kernel_rfl
  have hp : Yba.prog.stoodInHeld 58 = false := by kernel_rfl
  have p1 : ∀ x y : Value, (part 9 #[x, y] 0).run Yba.prog w = .ok x w := fun x y => by kernel_rfl
  have p2 : ∀ x y : Value, (part 9 #[x, y] 1).run Yba.prog w = .ok y w := fun x y => by kernel_rfl
  rw [show (10000 : Nat) = 9998 + 1 + 1 from rfl, run_equalIn_agg w (9998 + 1) 58 _ _ hS hp]
  simp only [Program.fieldsOf, Yba.underlying58]
  simp [Op.eqFields, p1, p2, run_equalIn_string w 9998 9 _ _ u9]

set_option maxRecDepth 100000 in
set_option maxHeartbeats 400000 in
theorem c_eq (g C g' C' n : Nat) (f f' : Nat → Lab) (w : World) (hn : n ≤ 1000) (h : LRow w g n f) (h' : LRow w g' n f') (he : ∀ i, i < n → f i = f' i) :
    Calls Yba.prog 10 #[.slice (some ⟨g, 0, none⟩) n C, .slice (some ⟨g', 0, none⟩) n C'] w fun e w' => e = .returned (.bool true) ∧ ∃ q, w' = w.drewN q := by
  have hgd : Yba.prog.eqGuardType Yba.prog.depth 58 = false := by kernel_rfl
  have e58 := eq58
  go_enter Yba.func10, Yba.ntmps10
  have hd0 : ((n : Int) != (n : Int)) = false := by simp
  go_wp2
  go_loopw [5] (fun i wr => ∃ (k q : Nat), k ≤ n ∧ i = .int .i64 k ∧ wr = w.drewN q) (fun i _ => n - (intOf i).toNat)
  case atStart => exact ⟨0, 0, by omega, rfl, rfl⟩
  case round =>
    obtain ⟨k, q, hk, rfl, rfl⟩ := hrel
    by_cases hlt : k < n
    · have a0 := h.cell0 hlt
      have a1 := h.cell1 hlt
      have b0 := h'.cell0 hlt
      have b1 := h'.cell1 hlt
      rw [← he k hlt] at b0 b1
      have i1 : (k : Int) < (n : Int) := by omega
      clear h h' he
      go_wp2
      go_quiet (fail)
      go_wp2
      go_roundw
      case rel => exact ⟨k + 1, q + nq, by omega, by go_num, by simp⟩
      case measure => simp [intOf]; omega
    · obtain rfl : k = n := by omega
      have hd : decide ((k : Int) < (k : Int)) = false := by simp
      clear h h' he
      go_wp2
      go_ret
      exact ⟨rfl, q, rfl⟩

set_option maxRecDepth 100000 in
theorem c_memos (lim : Int) (w : World) : Calls Yba.prog 7 #[.int .i64 lim] w fun e w' => e = .returned (.pointer (some ⟨w.heap.size, 0, none⟩)) ∧ MBlk w.heap.size w' (.map none) lim (.slice none 0 0) ∧ Chg w w' (fun _ => False) := by
  go_enter Yba.func7, Yba.ntmps7
  go_wp2
  go_ret
  refine ⟨rfl, ⟨14, _, by omega, World.rowIs_alloc w _ 81 (fun i => (#[.map none, .int .i64 lim, .slice none 0 0, .map none, .int .i64 lim, .slice none 0 0, .map none, .int .i64 lim, .slice none 0 0, .map none, .int .i64 lim, .slice none 0 0, .map none, .slice none 0 0][i]?).getD undef) (fun i hi => ?_), rfl, rfl, rfl⟩, (Chg.refl w _).alloc _⟩
  rw [Array.getElem?_eq_getElem hi]; rfl

/-! ### labels -/
def SrcL (w : World) (ao : Option Addr) (n : Nat) (s : Nat → Lab) : Prop :=
  n = 0 ∨ ∃ b off, ao = some ⟨b, off, none⟩ ∧ b < w.heap.size ∧ ∀ i, i < n → w.cell? ⟨b, off + i * 2, none⟩ = some (.string (s i).1) ∧ w.cell? ⟨b, off + i * 2 + 1, none⟩ = some (.string (s i).2)

set_option maxRecDepth 100000 in
set_option maxHeartbeats 400000 in
theorem c_labels (ao : Option Addr) (n cap : Nat) (s : Nat → Lab) (w : World) (hn : n ≤ 256) (h : SrcL w ao n s) :
    Calls Yba.prog 4 #[.slice ao n cap] w fun e w' => e = .returned (.slice (some ⟨w.heap.size, 0, none⟩) n n) ∧ LRow w' w.heap.size n s ∧ Chg w w' (fun _ => False) := by
  have hmk := run_makeL 28 Yba.underlying28 n n n n rfl rfl (Nat.le_refl _) (by omega) w
  have hrow := row_zeroL w n
  have hg0 : ∀ S, Chg w (w.alloc (zeroL n)) S := fun S => (Chg.refl w S).alloc _
  go_enter Yba.func4, Yba.ntmps4
  go_wp2
  clear hmk
  generalize hgg : w.heap.size = g at hrow ⊢
  have hgw : w.heap.size ≤ g := by omega
  have hgw2 : g ≤ w.heap.size := by omega
  have HG : Hid (w.heap.size = g) := hgg
  clear hgg
  go_loopw [4] (fun i wr => ∃ (k : Nat) (f : Nat → Lab), k ≤ n ∧ i = .int .i64 k ∧ LRow wr g n f ∧ (∀ j, j < k → f j = s j) ∧ Chg w wr (fun j => j = g)) (fun i _ => n - (intOf i).toNat)
  case atStart => exact ⟨0, _, by omega, rfl, hrow, fun _ _ => by omega, hg0 _⟩
  case round =>
    clear hrow hg0
    obtain ⟨k, f, hk, rfl, hr, hf, hc⟩ := hrel
    by_cases hlt : k < n
    · rcases h with h0 | ⟨b, off, rfl, hb, hcell⟩
      · omega
      have hbk := hc.block b hb (fun e => by omega)
      have s0 := (World.cell?_of_block (a := ⟨b, off + k * 2, none⟩) hbk).trans (hcell k hlt).1
      have s1 := (World.cell?_of_block (a := ⟨b, off + k * 2 + 1, none⟩) hbk).trans (hcell k hlt).2
      have a0 := hr.cell0 hlt
      have a1 := hr.cell1 hlt
      have f0 := hr.free (k * 2)
      have f1 := hr.free (k * 2 + 1)
      have hset := hr.set hlt (s k)
      have hcs : Chg wr ((wr.setCell ⟨g, k * 2, none⟩ (.string (s k).1)).setCell ⟨g, k * 2 + 1, none⟩ (.string (s k).2)) (fun j => j = g) := ((Chg.refl wr (fun j => j = g)).setCell (a := ⟨g, k * 2, none⟩) (.inl rfl) _).setCell (a := ⟨g, k * 2 + 1, none⟩) (.inl rfl) _
      have hd : decide ((k : Int) < (n : Int)) = true := by simp; omega
      have i1 : (k : Int) < (n : Int) := by omega
      clear hcell hr hbk
      go_wp2
      go_region
      all_goals
        go_wp2
        go_roundw
        case rel => exact ⟨k + 1, _, by omega, by go_num, hset.drew, (fun j hj => by by_cases e : j = k; (rw [if_pos e, e]); (rw [if_neg e]; exact hf j (by omega))), (hc.trans hcs (fun _ e => .inl e)).drew⟩
        case measure => simp [intOf]; omega
    · obtain rfl : k = n := by omega
      have hd : decide ((k : Int) < (k : Int)) = false := by simp
      go_wp2
      go_ret
      exact ⟨by rw [HG.out]; rfl, by rw [HG.out]; exact hr.congr hf, hc.fresh (fun k e => by omega)⟩

/-! ### Clone -/
def SrcS (w : World) (ao : Option Addr) (n : Nat) (s : Nat → ByteArray) : Prop :=
  n = 0 ∨ ∃ b off, ao = some ⟨b, off, none⟩ ∧ b < w.heap.size ∧ ∀ i, i < n → w.cell? ⟨b, off + i, none⟩ = some (.string (s i))

theorem info9 : (Yba.prog.info? 9).map (fun i => (i.zero.map (fun z => z.cells.size), i.size, i.bytes)) = some (some 1, 1, 16) := by kernel_rfl

set_option maxRecDepth 100000 in
set_option maxHeartbeats 400000 in
theorem c_clone (ao : Option Addr) (n cap : Nat) (s : Nat → ByteArray) (w : World) (hn : n ≤ 256) (h : SrcS w ao n s) (hz : ao = none → n = 0 ∧ cap = 0) :
    Calls Yba.prog 5 #[.slice ao n cap] w fun e w' => ∃ v, e = .returned v ∧ StrV w' v n s ∧ (∀ k, v.ownBlock = some k → w.heap.size ≤ k) ∧ Chg w w' (fun _ => False) := by
  have hsn : ∀ (w : World) (a : Option Addr) (n c : Nat), (binOp .eql 22 (.slice a n c) (.slice none 0 0)).run Yba.prog w = .ok (.bool a.isNone) w := fun w a n c => Lib.run_eql_slice_nil w 22 9 a n c 0 0 Yba.underlying22
  cases ao with
  | none =>
    obtain ⟨rfl, rfl⟩ := hz rfl
    go_enter Yba.func5, Yba.ntmps5
    go_wp2
    go_ret
    exact ⟨_, rfl, .inl ⟨rfl, rfl⟩, (fun k hk => by cases hk), Chg.refl _ _⟩
  | some a =>
    rcases Nat.eq_zero_or_pos n with rfl | hpos
    · go_enter Yba.func5, Yba.ntmps5
      go_wp2
      go_ret
      exact ⟨_, rfl, .inr ⟨w.heap.size, 0, rfl, by omega, by simp, fun i hi => by omega⟩, (fun k hk => by cases hk; exact Nat.le_refl _), (Chg.refl w _).alloc _⟩
    · rcases h with h0 | ⟨b, off, he, hb, hcell⟩
      · omega
      cases he
      obtain ⟨i0, hi0, hz0⟩ := Option.map_eq_some_iff.1 info9
      simp only [Prod.mk.injEq] at hz0
      obtain ⟨hz0, hsz, hby⟩ := hz0
      obtain ⟨z0, hz1, hz2⟩ := Option.map_eq_some_iff.1 hz0
      have hown : (w.alloc (.cells #[] 9)).ownsRow w.heap.size 9 1 (.slice (some ⟨w.heap.size, 0, none⟩) 0 0) 0 [] := World.ownsRow_made w #[] 0 (Nat.le_refl _) (by unfold maxLen; omega) rfl
      have hadd : ∀ j, (⟨b, off, none⟩ : Addr).add j = ⟨b, off + j, none⟩ := fun j => by unfold Addr.add; split <;> simp_all
      go_enter Yba.func5, Yba.ntmps5
      go_wp2_with (at_builtin; refine wpList_append_lies _ rfl (.tmp 5) (.tmp 6) 22 rfl w.heap.size 9 i0 z0 1 16 Yba.underlying22 hi0 hz1 hsz hby hz2 (by decide) _ 0 [] rfl hown ⟨b, off, none⟩ n cap ((List.range n).map fun i => .string (s i)) rfl ?c0 ?c1 ?c2 hpos (by unfold maxLen; omega) (by omega) ?c3 _ rfl ?_)
      case c0 => simp
      case c1 =>
        intro j u hu
        rw [hadd]
        have hj : j < n := by
          rcases Nat.lt_or_ge j n with h | h
          · exact h
          · rw [List.getElem?_eq_none (by simpa using h)] at hu; cases hu
        simp [hj] at hu
        rw [← hu, World.cell?_of_block (a := ⟨b, off + j, none⟩) (Deep.blk_alloc_lt _ _ _ hb)]
        exact hcell j hj
      case c2 => intro u hu; simp at hu; obtain ⟨i, _, rfl⟩ := hu; rfl
      case c3 => simp
      intro g2 c2 w2 ho2 hgr2 hat2 hlt2
      have hc2 : Chg w w2 (fun _ => False) := ((Chg.refl w (fun _ => False)).alloc (.cells #[] 9)).grown hgr2 (fun k hk => .inr (by cases hk; exact Nat.le_refl _))
      have hge := (ho2.lt g2 rfl).1
      try simp only [Nat.zero_add, List.nil_append] at ho2
      have hst : StrV w2 (.slice (some ⟨g2, 0, none⟩) n c2) n s := .inr ⟨g2, c2, rfl, by omega, hlt2, fun i hi => by
        rw [ho2.cellAt i (by omega)]; simp [hi]⟩
      clear ho2 hgr2 hat2 hown hcell
      go_wp2
      go_ret
      exact ⟨_, rfl, hst, (fun k hk => by cases hk; exact hge), hc2⟩
end Go.Proofs.Ybulkafyg
