/-
  the law's own model of the result: walked.
-/
import Derived.Test.YbulkafygRes2
import Derived.Deep.AppendLies
namespace Go.Proofs.Ybulkafyg
open Go.RowKit

/-- the cells of a list of labels -/
def cellsL (L : List Lab) : List Value := L.flatMap fun x => [.string x.1, .string x.2]
theorem cellsL_length (L : List Lab) : (cellsL L).length = L.length * 2 := by
  unfold cellsL
  induction L with
  | nil => rfl
  | cons x L ih => simp [List.flatMap_cons] at *; omega
theorem cellsL_snoc (L : List Lab) (x : Lab) : cellsL (L ++ [x]) = cellsL L ++ [.string x.1, .string x.2] := by simp [cellsL]
theorem cellsL_get (L : List Lab) (i : Nat) (d : Lab) (hi : i < L.length) : (cellsL L)[i * 2]? = some (.string (L.getD i d).1) ∧ (cellsL L)[i * 2 + 1]? = some (.string (L.getD i d).2) := by
  induction L generalizing i with
  | nil => simp at hi
  | cons x L ih =>
    cases i with
    | zero => exact ⟨rfl, rfl⟩
    | succ i =>
      have := ih i (by simpa using hi)
      rw [show (i + 1) * 2 = i * 2 + 2 by omega]
      exact this

/-- the row that the model builds -/
structure Acc2 (w wr : World) (g cap : Nat) (L : List Lab) : Prop where
  own : wr.ownsRow w.heap.size 58 2 (.slice (some ⟨g, 0, none⟩) L.length cap) L.length (cellsL L)
  chg : Chg w wr (fun _ => False)
theorem Acc2.chgd {w wr w' : World} {g cap : Nat} {L : List Lab} (a : Acc2 w wr g cap L) (hc : Chg wr w' (fun _ => False)) : Acc2 w w' g cap L := by
  refine ⟨⟨a.own.1, ?_⟩, a.chg.trans hc (fun _ e => e.elim)⟩
  rcases a.own.2 with ⟨h, _⟩ | ⟨g', c', cur, hv, hb, hg, h1, h2, h3, h4⟩
  · cases h
  · have hlt : g' < wr.heap.size := by
      rcases Nat.lt_or_ge g' wr.heap.size with h | h
      · exact h
      · rw [Array.getElem?_eq_none h] at hg; cases hg
    exact .inr ⟨g', c', cur, hv, hb, (hc.block g' hlt (fun e => e)).trans hg, h1, h2, h3, h4⟩
theorem Acc2.row {w wr : World} {g cap : Nat} {L : List Lab} (a : Acc2 w wr g cap L) (d : Lab) : w.heap.size ≤ g ∧ LRow wr g L.length (fun i => L.getD i d) := by
  rcases a.own.2 with ⟨h, _⟩ | ⟨g', c', cur, hv, hb, hg, h1, h2, h3, h4⟩
  · cases h
  · cases hv
    refine ⟨hb, cur.size, fun i => (cur[i]?).getD undef, by rw [h3]; omega, ⟨cur, hg, rfl, fun i hi => by simp [Array.getElem?_eq_getElem hi]⟩, fun i hi => ?_⟩
    have hx : ∀ j, j < L.length * 2 → cur[j]? = (cellsL L)[j]? := fun j hj => by
      rw [← h4, List.getElem?_take, if_pos hj, Array.getElem?_toList]
    obtain ⟨e0, e1⟩ := cellsL_get L i d hi
    dsimp only
    rw [hx _ (by omega), hx _ (by omega), e0, e1]
    exact ⟨rfl, rfl⟩
theorem lst_getD (L : List Lab) (d : Lab) : lst (fun i => L.getD i d) L.length = L := by
  apply List.ext_getElem
  · rw [length_lst]
  · intro i h1 h2
    unfold lst seg
    simp [h2]

theorem infoL : (Yba.prog.info? 58).map (fun i => (i.zero.map (fun z => z.cells.size), i.size, i.bytes)) = some (some 2, 2, 32) := by kernel_rfl
theorem wpList_appM (w0 w : World) {ops : Array Oper} {rest : List Oper} {o : Oper} {a : Act} {Q : Exit → Act → World → Prop} (hgd : o.guard = none) (s x : Operand)
    (ho : o.op = .call { callee := .builtin .append, args := #[s, x], argTypes := #[27, 27] }) (g cap : Nat) (L : List Lab) (y : Lab) (hs : a.eval s = .slice (some ⟨g, 0, none⟩) L.length cap)
    (h : Acc2 w0 w g cap L) (hL : L.length ≤ 1000000) (ad c : Nat) (hx : a.eval x = .slice (some ⟨ad, 0, none⟩) 1 c)
    (c0 : w.cell? ⟨ad, 0, none⟩ = some (.string y.1)) (c1 : w.cell? ⟨ad, 1, none⟩ = some (.string y.2))
    (hK : ∀ g' cap' w', Acc2 w0 w' g' cap' (L ++ [y]) → wpList Yba.prog ops Q rest (a.put o.dst (.slice (some ⟨g', 0, none⟩) (L ++ [y]).length cap')) w') : wpList Yba.prog ops Q (o :: rest) a w := by
  obtain ⟨i, hi, hz⟩ := Option.map_eq_some_iff.1 infoL
  simp only [Prod.mk.injEq] at hz
  obtain ⟨hz, hsz, hb⟩ := hz
  obtain ⟨z, hz1, hz2⟩ := Option.map_eq_some_iff.1 hz
  have hadd : ∀ j, (⟨ad, 0, none⟩ : Addr).add j = ⟨ad, j, none⟩ := fun j => by unfold Addr.add; split <;> simp_all
  refine wpList_append_lies w hgd s x 27 ho w0.heap.size 58 i z 2 32 Yba.underlying27 hi hz1 hsz hb hz2 (by decide) _ L.length (cellsL L) hs h.own ⟨ad, 0, none⟩ 1 c [.string y.1, .string y.2] hx rfl ?_ ?_ (by omega) (by unfold maxLen; omega) (by omega) h.chg.size _ rfl ?_
  · intro j u hu
    rw [hadd]
    match j, hu with
    | 0, hu => simp at hu; rw [c0, hu]
    | 1, hu => simp at hu; rw [c1, hu]
    | j + 2, hu => simp at hu
  · intro u hu; simp at hu; rcases hu with rfl | rfl <;> rfl
  · intro g' cap' w' hown hgrow _ _
    have hl : L.length + 1 = (L ++ [y]).length := by simp
    have := hK g' cap' w' ⟨by rw [cellsL_snoc, ← hl]; exact hown, h.chg.grown hgrow (fun k hk => .inr (h.own.lt k hk).1)⟩
    rw [← hl] at this
    exact this

/-- the model's loop over many, behind i labels -/
def mod1 (keep : Lab → Bool) (fM : Nat → Lab) (i : Nat) : List Lab := ((lst fM i).filter keep).filter neV
theorem mod1_yes {keep : Lab → Bool} {fM : Nat → Lab} {i : Nat} (hk : keep (fM i) = true) (hn : neV (fM i) = true) : mod1 keep fM (i + 1) = mod1 keep fM i ++ [fM i] := by
  unfold mod1; rw [lst_succ, List.filter_append, List.filter_append]; simp [hk, hn]
theorem mod1_no {keep : Lab → Bool} {fM : Nat → Lab} {i : Nat} (hk : keep (fM i) = false) : mod1 keep fM (i + 1) = mod1 keep fM i := by
  unfold mod1; rw [lst_succ, List.filter_append, List.filter_append]; simp [hk]
theorem mod1_no2 {keep : Lab → Bool} {fM : Nat → Lab} {i : Nat} (hk : keep (fM i) = true) (hn : neV (fM i) = false) : mod1 keep fM (i + 1) = mod1 keep fM i := by
  unfold mod1; rw [lst_succ, List.filter_append, List.filter_append]; simp [hk, hn]
theorem mod1_len (keep : Lab → Bool) (fM : Nat → Lab) (i : Nat) : (mod1 keep fM i).length ≤ i := by
  unfold mod1
  have h1 := List.length_filter_le neV ((lst fM i).filter keep)
  have h2 := List.length_filter_le keep (lst fM i)
  rw [length_lst] at h2
  omega
/-- .. and over include -/
def mod2 (nO : Nat) (fO : Nat → Lab) (sI : Nat → ByteArray) (j : Nat) : List Lab := (incL nO fO j sI).filter neV
theorem mod2_yes {nO : Nat} {fO : Nat → Lab} {sI : Nat → ByteArray} {j : Nat} (hn : neV (sI j, getN fO nO (sI j)) = true) : mod2 nO fO sI (j + 1) = mod2 nO fO sI j ++ [(sI j, getN fO nO (sI j))] := by
  unfold mod2; rw [incL_succ, List.filter_append]; simp [hn]
theorem mod2_no {nO : Nat} {fO : Nat → Lab} {sI : Nat → ByteArray} {j : Nat} (hn : neV (sI j, getN fO nO (sI j)) = false) : mod2 nO fO sI (j + 1) = mod2 nO fO sI j := by
  unfold mod2; rw [incL_succ, List.filter_append]; simp [hn]
theorem mod2_len (nO : Nat) (fO : Nat → Lab) (sI : Nat → ByteArray) (j : Nat) : (mod2 nO fO sI j).length ≤ j := by
  unfold mod2
  have h1 := List.length_filter_le neV (incL nO fO j sI)
  have h2 : (incL nO fO j sI).length = j := by simp [incL]
  omega

set_option maxRecDepth 100000 in
set_option maxHeartbeats 400000 in
theorem c_model' (keep : Lab → Bool) (dr on : Bool) (c : Int) (nm inc : Value) (nN : Nat) (sN : Nat → ByteArray) (nI : Nat) (sI : Nat → ByteArray) (gM CM nM : Nat) (fM : Nat → Lab) (gO CO nO : Nat) (fO : Nat → Lab) (w : World)
    (hN : StrV w nm nN sN) (hI : StrV w inc nI sI) (hM : LRow w gM nM fM) (hO : LRow w gO nO fO) (bI : nI ≤ 256) (bM : nM ≤ 256) (bO : nO ≤ 256) (hkp : Hid (keep = keepL dr (c == 0) on nN sN nI sI)) :
    Calls Yba.prog 8 #[.bool dr, .int .i64 c, .bool on, nm, inc, .slice (some ⟨gM, 0, none⟩) nM CM, .slice (some ⟨gO, 0, none⟩) nO CO] w fun e w' => ∃ g C k h, e = .returned (.slice (some ⟨g, 0, none⟩) k C) ∧ k ≤ 1000 ∧
      w.heap.size ≤ g ∧ LRow w' g k h ∧ Sol (lst h k) (((lst fM nM).filter keep ++ incL nO fO nI sI).filter neV) ∧ Chg w w' (fun _ => False) := by
  go_enter Yba.func8, Yba.ntmps8
  go_wp2
  have hst : Acc2 w (w.alloc (.cells #[] 58)) w.heap.size 0 [] := ⟨World.ownsRow_made w #[] 0 (Nat.le_refl _) (by unfold maxLen; omega) rfl, (Chg.refl w _).alloc _⟩
  go_loopw [15, 29] (fun o i' wr => ∃ (i g cap : Nat), i ≤ nM ∧ o = .slice (some ⟨g, 0, none⟩) (mod1 keep fM i).length cap ∧ i' = .int .i64 i ∧ Acc2 w wr g cap (mod1 keep fM i)) (fun _ i _ => nM - (intOf i).toNat)
  case atStart => exact ⟨0, w.heap.size, 0, by omega, rfl, rfl, hst⟩
  case round =>
    clear hst
    obtain ⟨i, g, cap, hin, rfl, rfl, ha⟩ := hrel
    by_cases hlt : i < nM
    · have hM' := hM.chg ha.chg (fun e => e)
      have a0 := hM'.cell0 hlt
      have a1 := hM'.cell1 hlt
      have hal : Chg wr (wr.alloc (.cells #[.string (fM i).1, .string (fM i).2] 58)) (fun _ => False) := (Chg.refl wr _).alloc _
      have l0 := new0 wr (.string (fM i).1) (.string (fM i).2) 58 wr.heap.size rfl
      have l1 := new1 wr (.string (fM i).1) (.string (fM i).2) 58 wr.heap.size rfl
      go_upto_region 5 with fail
      generalize hLL : wr.heap.size = L at l0 l1 ⊢
      generalize (wr.alloc (.cells #[.string (fM i).1, .string (fM i).2] 58)) = w1 at hal l0 l1 ⊢
      clear hLL a0 a1 hM'
      have ha1 : Chg w w1 (fun _ => False) := ha.chg.trans hal (fun _ e => e.elim)
      have hN1 : StrV w1 nm nN sN := hN.chg ha1 (fun _ _ e => e)
      have hI1 : StrV w1 inc nI sI := hI.chg ha1 (fun _ _ e => e)
      go_cut [38] from 30 to 58 (fun v wc => v = .bool (isMeta (fM i) && dr) ∧ wc = w1)
      case first =>
        cases hm : isMeta (fM i) with
        | true =>
          have hd : ((fM i).1.toList == [95, 95, 110, 97, 109, 101, 95, 95]) = true := hm
          go_wp2
          go_meet
          exact ⟨by rw [hm]; rfl, rfl⟩
        | false =>
          have hd : ((fM i).1.toList == [95, 95, 110, 97, 109, 101, 95, 95]) = false := hm
          go_wp2
          go_meet
          exact ⟨by rw [hm]; rfl, rfl⟩
      case rest =>
        obtain ⟨rfl, rfl⟩ := hcut
        rename World => w1
        cases h1 : (isMeta (fM i) && dr) with
        | true =>
          have hk : keep (fM i) = false := by rw [hkp.out]; unfold keepL; rw [h1]; rfl
          have ha2 := ha.chgd hal
          rw [← mod1_no hk] at ha2
          go_wp2
          go_roundw
          case rel => exact ⟨i + 1, g, cap, by omega, by rw [mod1_no hk], by go_num, ha2⟩
          case measure => simp [intOf]; omega
        | false =>
          cases h2 : (c == 0) with
          | true =>
            go_upto_region 7 with fail
            go_cut [46] from 30 to 58 (fun v wc => v = .bool (hasN sN nN (fM i).1 != on) ∧ wc = w1)
            case first =>
              go_wp2_with fail
              refine (c_contains nm nN sN (fM i).1 w1 hN1).mono ?_
              rintro e w' ⟨rfl, rfl⟩
              go_wp2
              go_meet
              exact ⟨by first | rfl | (cases hasN sN nN (fM i).1 <;> cases on <;> rfl), rfl⟩
            case rest =>
              obtain ⟨rfl, rfl⟩ := hcut
              rename World => w1
              cases h5 : (hasN sN nN (fM i).1 != on) with
              | true =>
                have hk : keep (fM i) = false := by rw [hkp.out]; unfold keepL; rw [h1, h2, h5]; rfl
                have ha2 := ha.chgd hal
                rw [← mod1_no hk] at ha2
                go_wp2
                go_roundw
                case rel => exact ⟨i + 1, g, cap, by omega, by rw [mod1_no hk], by go_num, ha2⟩
                case measure => simp [intOf]; omega
              | false =>
                have hk' : keep (fM i) = !hasN sI nI (fM i).1 := by rw [hkp.out]; unfold keepL; rw [h1, h2, h5]; rfl
                cases h3 : hasN sI nI (fM i).1 with
                | true =>
                  have hk : keep (fM i) = false := by rw [hk', h3]; rfl
                  go_wp2_with fail
                  refine (c_contains inc nI sI (fM i).1 w1 hI1).mono ?_
                  rintro e w' ⟨rfl, rfl⟩
                  have ha2 := ha.chgd hal
                  rw [← mod1_no hk] at ha2
                  go_wp2
                  go_roundw
                  case rel => exact ⟨i + 1, g, cap, by omega, by rw [mod1_no hk], by go_num, ha2⟩
                  case measure => simp [intOf]; omega
                | false =>
                  have hk : keep (fM i) = true := by rw [hk', h3]; rfl
                  go_wp2_with fail
                  refine (c_contains inc nI sI (fM i).1 w1 hI1).mono ?_
                  rintro e w' ⟨rfl, rfl⟩
                  cases h4 : neV (fM i) with
                  | true =>
                    have hd4 : ((fM i).2.toList == []) = false := by unfold neV at h4; simpa using h4
                    have ha3 : Acc2 w (w'.alloc (.cells #[.string (fM i).1, .string (fM i).2] 58)) g cap (mod1 keep fM i) := ha.chgd (hal.alloc _)
                    have hlen := mod1_len keep fM i
                    go_wp2_with (at_builtin; refine wpList_appM w _ rfl (.tmp 54) (.tmp 56) rfl g cap _ (fM i) rfl ha3 (by omega) w'.heap.size 1 rfl (new0 _ _ _ _ _ rfl) (new1 _ _ _ _ _ rfl) ?_)
                    intro g2 cap2 w5 ha5
                    rw [← mod1_yes hk h4] at ha5
                    clear l0 l1
                    go_wp2
                    go_roundw
                    case rel => exact ⟨i + 1, g2, cap2, by omega, by rw [mod1_yes hk h4]; simp, by go_num, ha5⟩
                    case measure => simp [intOf]; omega
                  | false =>
                    have hd4 : ((fM i).2.toList == []) = true := by unfold neV at h4; simpa using h4
                    have ha2 := ha.chgd hal
                    rw [← mod1_no2 hk h4] at ha2
                    go_wp2
                    go_roundw
                    case rel => exact ⟨i + 1, g, cap, by omega, by rw [mod1_no2 hk h4], by go_num, ha2⟩
                    case measure => simp [intOf]; omega
          | false =>
            have hk' : keep (fM i) = !hasN sI nI (fM i).1 := by rw [hkp.out]; unfold keepL; rw [h1, h2]; rfl
            cases h3 : hasN sI nI (fM i).1 with
            | true =>
              have hk : keep (fM i) = false := by rw [hk', h3]; rfl
              go_wp2_with fail
              refine (c_contains inc nI sI (fM i).1 w1 hI1).mono ?_
              rintro e w' ⟨rfl, rfl⟩
              have ha2 := ha.chgd hal
              rw [← mod1_no hk] at ha2
              go_wp2
              go_roundw
              case rel => exact ⟨i + 1, g, cap, by omega, by rw [mod1_no hk], by go_num, ha2⟩
              case measure => simp [intOf]; omega
            | false =>
              have hk : keep (fM i) = true := by rw [hk', h3]; rfl
              go_wp2_with fail
              refine (c_contains inc nI sI (fM i).1 w1 hI1).mono ?_
              rintro e w' ⟨rfl, rfl⟩
              cases h4 : neV (fM i) with
              | true =>
                have hd4 : ((fM i).2.toList == []) = false := by unfold neV at h4; simpa using h4
                have ha3 : Acc2 w (w'.alloc (.cells #[.string (fM i).1, .string (fM i).2] 58)) g cap (mod1 keep fM i) := ha.chgd (hal.alloc _)
                have hlen := mod1_len keep fM i
                go_wp2_with (at_builtin; refine wpList_appM w _ rfl (.tmp 54) (.tmp 56) rfl g cap _ (fM i) rfl ha3 (by omega) w'.heap.size 1 rfl (new0 _ _ _ _ _ rfl) (new1 _ _ _ _ _ rfl) ?_)
                intro g2 cap2 w5 ha5
                rw [← mod1_yes hk h4] at ha5
                clear l0 l1
                go_wp2
                go_roundw
                case rel => exact ⟨i + 1, g2, cap2, by omega, by rw [mod1_yes hk h4]; simp, by go_num, ha5⟩
                case measure => simp [intOf]; omega
              | false =>
                have hd4 : ((fM i).2.toList == []) = true := by unfold neV at h4; simpa using h4
                have ha2 := ha.chgd hal
                rw [← mod1_no2 hk h4] at ha2
                go_wp2
                go_roundw
                case rel => exact ⟨i + 1, g, cap, by omega, by rw [mod1_no2 hk h4], by go_num, ha2⟩
                case measure => simp [intOf]; omega
    · obtain rfl : i = nM := by omega
      have hd : decide ((i : Int) < (i : Int)) = false := by simp
      obtain ⟨ai, ci, rfl, _⟩ := hI.form
      have hlen := mod1_len keep fM i
      generalize hL1 : mod1 keep fM i = L1 at ha hlen ⊢
      have HL1 : Hid (L1 = mod1 keep fM i) := hL1.symm
      clear hL1
      go_wp2
      rename World => w6
      go_loopw [15, 61] (fun o i2 wr => ∃ (j g cap : Nat), j ≤ nI ∧ o = .slice (some ⟨g, 0, none⟩) (L1 ++ mod2 nO fO sI j).length cap ∧ i2 = .int .i64 j ∧ Acc2 w wr g cap (L1 ++ mod2 nO fO sI j)) (fun _ i _ => nI - (intOf i).toNat)
      case atStart => exact ⟨0, g, cap, by omega, by simp [mod2, incL], rfl, by simpa [mod2, incL] using ha⟩
      case round =>
        clear ha
        obtain ⟨j, g, cap, hjn, rfl, rfl, ha⟩ := hrel
        have hlen2 := mod2_len nO fO sI j
        by_cases hlj : j < nI
        · obtain ⟨gI, rfl, hcell⟩ := (hI.chg ha.chg (fun _ _ e => e)).get hlj
          rename World => w7
          generalize hL2 : L1 ++ mod2 nO fO sI j = L2 at ha ⊢
          have HL2 : Hid (L2 = L1 ++ mod2 nO fO sI j) := hL2.symm
          have hlen3 : L2.length ≤ 1000 := by rw [← hL2, List.length_append]; omega
          clear hL2
          go_wp2
          go_loopw [20, 67] (fun v i3 wr => ∃ q : Nat, q ≤ nO ∧ v = .string ⟨#[]⟩ ∧ i3 = .int .i64 q ∧ (∀ i, i < q → ((fO i).1.toList == (sI j).toList) = false) ∧ Chg w7 wr (fun _ => False)) (fun _ i _ => nO - (intOf i).toNat)
          case atStart => exact ⟨0, by omega, rfl, rfl, fun _ _ => by omega, Chg.refl _ _⟩
          case round =>
            clear hcell
            obtain ⟨q, hq, rfl, rfl, hno, hc7⟩ := hrel
            rename World => w8
            by_cases hlq : q < nO
            · have hO8 := hO.chg (ha.chg.trans hc7 (fun _ e => e.elim)) (fun e => e)
              have a0 := hO8.cell0 hlq
              have a1 := hO8.cell1 hlq
              cases he : (fO q).1.toList == (sI j).toList with
              | true =>
                have hg : Hid (getN fO nO (sI j) = (fO q).2) := getN_yes hlq hno he
                have haE := ha.chgd (hc7.alloc (.cells #[.string (fO q).1, .string (fO q).2] 58))
                clear hO8 hno hc7
                cases h4 : neV (sI j, getN fO nO (sI j)) with
                | true =>
                  have hd4 : ((fO q).2.toList == []) = false := by unfold neV at h4; rw [hg.out] at h4; simpa using h4
                  have ha3 := haE.chgd ((Chg.refl _ (fun _ => False)).alloc (.cells #[.string (sI j), .string (fO q).2] 58))
                  have hL3 : Hid (L1 ++ mod2 nO fO sI (j + 1) = L2 ++ [(sI j, (fO q).2)]) := by
                    show L1 ++ mod2 nO fO sI (j + 1) = L2 ++ [(sI j, (fO q).2)]
                    rw [mod2_yes h4, HL2.out, hg.out, List.append_assoc]
                  go_wp2_with (at_builtin; refine wpList_appM w _ rfl (.tmp 80) (.tmp 84) rfl g cap L2 (sI j, (fO q).2) rfl ha3 (by omega) (w8.heap.size + 1) 1 rfl (new0 _ _ _ _ _ (by simp)) (new1 _ _ _ _ _ (by simp)) ?_)
                  intro g2 cap2 w9 ha9
                  rw [← hL3.out] at ha9
                  clear a0 a1 haE ha3
                  go_wp2
                  go_roundw
                  case rel => exact ⟨j + 1, g2, cap2, by omega, by rw [hL3.out]; simp, by go_num, ha9⟩
                  case measure => simp [intOf]; omega
                | false =>
                  have hd4 : ((fO q).2.toList == []) = true := by unfold neV at h4; rw [hg.out] at h4; simpa using h4
                  have hL3 : Hid (L1 ++ mod2 nO fO sI (j + 1) = L2) := by
                    show L1 ++ mod2 nO fO sI (j + 1) = L2
                    rw [mod2_no h4, HL2.out]
                  rw [← hL3.out] at haE
                  go_wp2
                  go_roundw
                  case rel => exact ⟨j + 1, g, cap, by omega, by rw [hL3.out], by go_num, haE⟩
                  case measure => simp [intOf]; omega
              | false =>
                clear hO8
                go_wp2
                go_roundw
                case rel => exact ⟨q + 1, by omega, rfl, by go_num, fun i hi => by rcases Nat.lt_or_ge i q with e | e; exact hno i e; rw [show i = q by omega]; exact he, hc7.alloc _⟩
                case measure => simp [intOf]; omega
            · obtain rfl : q = nO := by omega
              have hd5 : decide ((q : Int) < (q : Int)) = false := by simp
              have hg : Hid (getN fO q (sI j) = ⟨#[]⟩) := getN_no hno
              have h4 : neV (sI j, getN fO q (sI j)) = false := by unfold neV; rw [hg.out, Lib.toList_data]; rfl
              have haE := ha.chgd hc7
              have hL3 : Hid (L1 ++ mod2 q fO sI (j + 1) = L2) := by
                show L1 ++ mod2 q fO sI (j + 1) = L2
                rw [mod2_no h4, HL2.out]
              rw [← hL3.out] at haE
              clear hno hc7
              go_wp2
              go_roundw
              case rel => exact ⟨j + 1, g, cap, by omega, by rw [hL3.out], by go_num, haE⟩
              case measure => simp [intOf]; omega
        · obtain rfl : j = nI := by omega
          have hd2 : decide ((j : Int) < (j : Int)) = false := by simp
          generalize hL2 : L1 ++ mod2 nO fO sI j = L2 at ha ⊢
          have HL2 : Hid (L2 = ((lst fM i).filter keep ++ incL nO fO j sI).filter neV) := by
            show L2 = _
            rw [List.filter_append, ← hL2, HL1.out]; rfl
          have hlen3 : L2.length ≤ 1000 := by rw [← hL2, List.length_append]; omega
          clear hL2
          obtain ⟨hgw, hrow⟩ := ha.row (⟨#[]⟩, ⟨#[]⟩)
          have hL4 := lst_getD L2 (⟨#[]⟩, ⟨#[]⟩)
          have hchg := ha.chg
          generalize (fun i => L2.getD i (⟨#[]⟩, ⟨#[]⟩)) = F at hrow hL4
          generalize hn2 : L2.length = n at hrow hL4 hlen3 ⊢
          have HL4 : Hid (lst F n = L2) := hL4
          clear hL4 hn2 ha
          rename World => w8
          go_wp2
          go_loopw [23] (fun i wr => ∃ (p : Nat) (G : Nat → Lab), 0 < p ∧ (p ≤ n ∨ p = 1) ∧ i = .int .i64 p ∧ LRow wr g n G ∧ Srt F G 0 p n ∧ Chg w wr (fun j => j = g)) (fun i _ => n - (intOf i).toNat)
          case atStart => exact ⟨1, F, by omega, by omega, rfl, hrow, Srt.same (fun i j a1 a2 a3 => by omega), hchg.mono (fun _ e => e.elim)⟩
          case round =>
            clear hrow hchg
            obtain ⟨p, G, hp0, hpn, rfl, hr, hs, hc⟩ := hrel
            by_cases hlt : p < n
            · have hd6 : decide ((p : Int) < (n : Int)) = true := by simp; omega
              rename World => w9
              go_wp2
              go_loopw [24] (fun j wr => ∃ (q : Nat) (G2 : Nat → Lab), q ≤ p ∧ j = .int .i64 q ∧ LRow wr g n G2 ∧ Ins G G2 0 p q n ∧ Chg w wr (fun j => j = g)) (fun j _ => (intOf j).toNat)
              case atStart => exact ⟨p, G, Nat.le_refl _, rfl, hr, ins_start hs.sorted, hc⟩
              case round =>
                clear hr hc
                obtain ⟨q, G2, hqp, rfl, hr2, hi2, hc2⟩ := hrel
                rename World => w10
                rcases Nat.lt_or_ge 0 q with hq0 | hq0
                · have hd7 : decide ((0 : Int) < (q : Int)) = true := by simp; omega
                  have a0 := hr2.cell0 (k := q) (by omega)
                  have b0 := hr2.cell0 (k := q - 1) (by omega)
                  have i1 : (0 : Int) ≤ (q : Int) := by omega
                  have i2 : (q : Int) < (n : Int) := by omega
                  have i3 : (1 : Int) ≤ (q : Int) := by omega
                  have i7 : ¬ (q : Int) < 1 := by omega
                  have i8 : (q : Int) ≤ (n : Int) := by omega
                  have i9 : (q : Int) < (n : Int) + 1 := by omega
                  have i4 : (q : Int) - 1 < (n : Int) := by omega
                  have i5 : IntKind.i64.wrap ((q : Int) - 1) = (q : Int) - 1 := by rw [IntKind.wrap_i64]; omega
                  have i6 : ((q : Int) - 1).toNat = q - 1 := by omega
                  have i10 : decide ((q : Int) - 1 < 0) = false := by simp; omega
                  have i11 : decide ((n : Int) ≤ (q : Int) - 1) = false := by simp; omega
                  have i12 : ¬ (n : Int) ≤ (q : Int) - 1 := by omega
                  cases hcmp : ltB (key (G2 q)) (key (G2 (q - 1))) with
                  | true =>
                    have hcd : Op.bytesLess (G2 q).1.toList (G2 (q - 1)).1.toList = true := hcmp
                    go_wp2
                    go_quiet (fail)
                    have hr3 := hr2.drewN nq
                    have hc3 := hc2.drewN nq
                    clear a0 b0 hr2 hc2
                    generalize w10.drewN nq = w11 at hr3 hc3 ⊢
                    have a0 := hr3.cell0 (k := q) (by omega)
                    have a1 := hr3.cell1 (k := q) (by omega)
                    have hr4 := hr3.alloc (.cells #[.string (G2 q).1, .string (G2 q).2] 58)
                    have hc4 := hc3.alloc (.cells #[.string (G2 q).1, .string (G2 q).2] 58)
                    have t0 := new0 w11 (.string (G2 q).1) (.string (G2 q).2) 58 w11.heap.size rfl
                    have t1 := new1 w11 (.string (G2 q).1) (.string (G2 q).2) 58 w11.heap.size rfl
                    have hgl := hr3.lt
                    have n1 : ¬ g = w11.heap.size := by omega
                    have n2 : ¬ w11.heap.size = g := by omega
                    clear hr3 hc3
                    go_upto_region 32 with fail
                    clear a0 a1
                    generalize hT : w11.heap.size = T at t0 t1 n1 n2 ⊢
                    clear hT hgl
                    generalize (w11.alloc (.cells #[.string (G2 q).1, .string (G2 q).2] 58)) = w12 at hr4 hc4 t0 t1 ⊢
                    have a0 := hr4.cell0 (k := q) (by omega)
                    have a1 := hr4.cell1 (k := q) (by omega)
                    have b0 := hr4.cell0 (k := q - 1) (by omega)
                    have b1 := hr4.cell1 (k := q - 1) (by omega)
                    have f0 := hr4.free (q * 2)
                    have f1 := hr4.free (q * 2 + 1)
                    have f2 := hr4.free ((q - 1) * 2)
                    have f3 := hr4.free ((q - 1) * 2 + 1)
                    have hs4 := hr4.swap (i := q) (j := q - 1) (by omega) (by omega)
                    have hi3 := ins_step hi2 hq0 hqp (by omega) hcmp
                    have hc5 : Chg w _ (fun j => j = g) := hc4.trans (chg_swap (i := q) (j := q - 1) (u := .string (G2 (q - 1)).1) (v := .string (G2 (q - 1)).2) (x := .string (G2 q).1) (y := .string (G2 q).2)) (fun _ e => .inl e)
                    clear hr4
                    go_wp2
                    go_roundw
                    case rel => exact ⟨q - 1, _, by omega, by go_num, hs4, hi3, hc5⟩
                    case measure => simp [intOf]; omega
                  | false =>
                    have hcd : Op.bytesLess (G2 q).1.toList (G2 (q - 1)).1.toList = false := hcmp
                    have hi3 := hs.snoc (ins_done hi2 (Nat.zero_le _) hqp (fun _ => hcmp))
                    go_wp2
                    go_quiet (fail)
                    clear a0 b0
                    go_wp2
                    go_roundw
                    case rel => exact ⟨p + 1, G2, by omega, by omega, by go_num, hr2.drewN _, hi3, hc2.drewN _⟩
                    case measure => simp [intOf]; omega
                · obtain rfl : q = 0 := by omega
                  have hi3 := hs.snoc (ins_done hi2 (Nat.zero_le _) hqp (fun e => by omega))
                  go_wp2
                  go_quiet (fail)
                  go_wp2
                  go_roundw
                  case rel => exact ⟨p + 1, G2, by omega, by omega, by go_num, hr2.drewN _, hi3, hc2.drewN _⟩
                  case measure => simp [intOf]; omega
            · have hd6 : decide ((p : Int) < (n : Int)) = false := by simp; omega
              have hsol : Sol (lst G n) (((lst fM i).filter keep ++ incL nO fO j sI).filter neV) := by
                refine ⟨sorted_lst (hs.sorted.mono (Nat.le_refl _) (by omega)), fun k => ?_⟩
                rw [← HL2.out, ← HL4.out]
                exact (hs.kf k).symm
              go_wp2
              go_ret
              exact ⟨g, cap, n, G, rfl, hlen3, hgw, hr, hsol, hc.fresh (fun k e => by omega)⟩

theorem c_model (dr on : Bool) (c : Int) (nm inc : Value) (nN : Nat) (sN : Nat → ByteArray) (nI : Nat) (sI : Nat → ByteArray) (gM CM nM : Nat) (fM : Nat → Lab) (gO CO nO : Nat) (fO : Nat → Lab) (w : World)
    (hN : StrV w nm nN sN) (hI : StrV w inc nI sI) (hM : LRow w gM nM fM) (hO : LRow w gO nO fO) (bI : nI ≤ 256) (bM : nM ≤ 256) (bO : nO ≤ 256) :
    Calls Yba.prog 8 #[.bool dr, .int .i64 c, .bool on, nm, inc, .slice (some ⟨gM, 0, none⟩) nM CM, .slice (some ⟨gO, 0, none⟩) nO CO] w fun e w' => ∃ g C k h, e = .returned (.slice (some ⟨g, 0, none⟩) k C) ∧ k ≤ 1000 ∧
      w.heap.size ≤ g ∧ LRow w' g k h ∧ Sol (lst h k) ((baseL dr (c == 0) on nN sN nI sI nM fM nO fO).filter neV) ∧ Chg w w' (fun _ => False) :=
  c_model' _ dr on c nm inc nN sN nI sI gM CM nM fM gO CO nO fO w hN hI hM hO bI bM bO rfl
end Go.Proofs.Ybulkafyg
