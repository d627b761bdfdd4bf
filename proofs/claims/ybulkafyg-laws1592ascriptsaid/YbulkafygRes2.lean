/-
  sortLabels, resultLabels: walked.
-/
import Derived.Test.YbulkafygRes1
namespace Go.Proofs.Ybulkafyg
open Go.RowKit

/-- the value is not empty -/
def neV (l : Lab) : Bool := !(l.2.toList == [])
/-- L is base in its stable order -/
structure Sol (L base : List Lab) : Prop where
  sorted : Sorted L
  same : ∀ k, ofKey k L = ofKey k base
theorem Sol.uniq {L L' base : List Lab} (h : Sol L base) (h' : Sol L' base) : L = L' := sorted_unique _ _ h.sorted h'.sorted (fun k => (h.same k).trans (h'.same k).symm)

theorem filter_yes {f h : Nat → Lab} {i k : Nat} (e : lst h k = (lst f i).filter neV) (hy : neV (f i) = true) : lst (updL h k (f i)) (k + 1) = (lst f (i + 1)).filter neV := by
  rw [lst_upd, e, lst_succ, List.filter_append]
  simp [hy]
theorem filter_no {f h : Nat → Lab} {i k : Nat} (e : lst h k = (lst f i).filter neV) (hy : neV (f i) = false) : lst h k = (lst f (i + 1)).filter neV := by
  rw [e, lst_succ, List.filter_append]
  simp [hy]

theorem new0 (w : World) (x y : Value) (t B : Nat) (hB : w.heap.size = B) : (w.alloc (.cells #[x, y] t)).cell? ⟨B, 0, none⟩ = some x := by
  subst hB; simp only [World.cell?]; rw [Deep.blk_alloc_new]; rfl
theorem new1 (w : World) (x y : Value) (t B : Nat) (hB : w.heap.size = B) : (w.alloc (.cells #[x, y] t)).cell? ⟨B, 1, none⟩ = some y := by
  subst hB; simp only [World.cell?]; rw [Deep.blk_alloc_new]; rfl

set_option maxRecDepth 100000 in
set_option maxHeartbeats 400000 in
theorem s_sortLabels (C g n : Nat) (f : Nat → Lab) (w : World) (h : LRow w g n f) (hn : n ≤ 1000000) (hC : n ≤ C) :
    Calls Yba.prog 20 #[.slice (some ⟨g, 0, none⟩) n C] w fun e w' => ∃ k h, e = .returned (.slice (some ⟨g, 0, none⟩) k C) ∧ k ≤ n ∧ LRow w' g n h ∧ Sol (lst h k) ((lst f n).filter neV) ∧ Chg w w' (fun j => j = g) := by
  go_enter Yba.func20, Yba.ntmps20
  go_wp2
  go_loopw [3, 5, 10] (fun o _ i wr => ∃ (k i' : Nat) (h : Nat → Lab), k ≤ i' ∧ i' ≤ n ∧ o = .slice (some ⟨g, 0, none⟩) k C ∧ i = .int .i64 i' ∧ LRow wr g n h ∧ Hid (lst h k = (lst f i').filter neV) ∧ (∀ j, i' ≤ j → j < n → h j = f j) ∧ Chg w wr (fun j => j = g)) (fun _ _ i _ => n - (intOf i).toNat)
  case atStart => exact ⟨0, 0, f, by omega, by omega, rfl, rfl, h, rfl, fun _ _ _ => rfl, Chg.refl _ _⟩
  case round =>
    clear h
    obtain ⟨k, i, h, hki, hin, rfl, rfl, hr, he, hrest, hc⟩ := hrel
    by_cases hlt : i < n
    · have a0 := hr.cell0 hlt
      have a1 := hr.cell1 hlt
      rw [hrest i (Nat.le_refl _) hlt] at a0 a1
      cases hne : neV (f i) with
      | true =>
        have hd : ((f i).2.toList == []) = false := by unfold neV at hne; simpa using hne
        have hr2 := (hr.alloc (.cells #[.string (f i).1, .string (f i).2] 58)).alloc (.cells #[.string (f i).1, .string (f i).2] 58)
        have hc2 := (hc.alloc (.cells #[.string (f i).1, .string (f i).2] 58)).alloc (.cells #[.string (f i).1, .string (f i).2] 58)
        have he2 : Hid (lst (updL h k (f i)) (k + 1) = (lst f (i + 1)).filter neV) := filter_yes he.out hne
        go_wp2_with (at_builtin; refine wpList_app _ rfl (.tmp 17) (.tmp 19) rfl g k C n h (f i) rfl hr2 (by omega) (by omega) (wr.heap.size + 1) 1 rfl (new0 _ _ _ _ _ (by simp)) (new1 _ _ _ _ _ (by simp)) ?_)
        intro w3 hr3 hc3
        clear a0 a1 hr hc hr2
        go_wp2
        go_roundw
        case rel => exact ⟨k + 1, i + 1, _, by omega, by omega, rfl, by go_num, hr3, he2, fun j j1 j2 => by unfold updL; rw [if_neg (by omega)]; exact hrest j (by omega) j2, hc2.trans hc3 (fun _ e => .inl e)⟩
        case measure => simp [intOf]; omega
      | false =>
        have hd : ((f i).2.toList == []) = true := by unfold neV at hne; simpa using hne
        have he2 : Hid (lst h k = (lst f (i + 1)).filter neV) := filter_no he.out hne
        go_wp2
        go_roundw
        case rel => exact ⟨k, i + 1, h, by omega, by omega, rfl, by go_num, hr.alloc _, he2, fun j j1 j2 => hrest j (by omega) j2, hc.alloc _⟩
        case measure => simp [intOf]; omega
    · obtain rfl : i = n := by omega
      have hd : decide ((i : Int) < (i : Int)) = false := by simp
      go_wp2_with fail
      refine (s_sortStable C g k i h wr hr hki hn).mono ?_
      rintro e w1 ⟨rfl, g1, hr1, hs1, hk1, hc1⟩
      have hsol : Sol (lst g1 k) ((lst f i).filter neV) := ⟨sorted_lst hs1, fun q => by rw [← he.out]; exact (hk1 q).symm⟩
      go_wp2
      go_ret
      exact ⟨k, g1, rfl, hki, hr1, hsol, hc.trans hc1 (fun _ e => .inl e)⟩

/-- the metric's own name -/
def isMeta (l : Lab) : Bool := l.1.toList == [95, 95, 110, 97, 109, 101, 95, 95]
/-- does the label of many stay -/
def keepL (drops c0 on : Bool) (nN : Nat) (sN : Nat → ByteArray) (nI : Nat) (sI : Nat → ByteArray) (l : Lab) : Bool :=
  !(isMeta l && drops) && !(c0 && (hasN sN nN l.1 != on)) && !hasN sI nI l.1
/-- the labels that are taken from one -/
def incL (nO : Nat) (fO : Nat → Lab) (nI : Nat) (sI : Nat → ByteArray) : List Lab := (List.range nI).map fun i => (sI i, getN fO nO (sI i))
def baseL (drops c0 on : Bool) (nN : Nat) (sN : Nat → ByteArray) (nI : Nat) (sI : Nat → ByteArray) (nM : Nat) (fM : Nat → Lab) (nO : Nat) (fO : Nat → Lab) : List Lab :=
  (lst fM nM).filter (keepL drops c0 on nN sN nI sI) ++ incL nO fO nI sI

theorem StrV.chg {w w' : World} {v : Value} {n : Nat} {s : Nat → ByteArray} {S : Nat → Prop} (h : StrV w v n s) (hc : Chg w w' S) (hs : ∀ k, v.ownBlock = some k → ¬ S k) : StrV w' v n s := by
  rcases h with h | ⟨g, cap, rfl, hn, hg, hcell⟩
  · exact .inl h
  · exact .inr ⟨g, cap, rfl, hn, Nat.lt_of_lt_of_le hg hc.size, fun i hi => (World.cell?_of_block (hc.block g hg (hs g rfl))).trans (hcell i hi)⟩
theorem StrV.blk {w : World} {v : Value} {n : Nat} {s : Nat → ByteArray} (h : StrV w v n s) : ∀ k, v.ownBlock = some k → k < w.heap.size := by
  rcases h with ⟨rfl, _⟩ | ⟨g, cap, rfl, hn, hg, hcell⟩
  · intro k hk; cases hk
  · intro k hk; cases hk; exact hg
theorem StrV.form {w : World} {v : Value} {n : Nat} {s : Nat → ByteArray} (h : StrV w v n s) : ∃ a cap, v = .slice a n cap ∧ n ≤ 1000000 := by
  rcases h with ⟨rfl, rfl⟩ | ⟨g, cap, rfl, hn, _⟩
  · exact ⟨none, 0, rfl, by omega⟩
  · exact ⟨_, cap, rfl, hn⟩

theorem makeL : (Yba.prog.info? 58).map (fun i => (i.zero.map (fun z => z.cells), i.size, i.bytes)) = some (some #[.string ⟨#[]⟩, .string ⟨#[]⟩], 2, 32) := by kernel_rfl
abbrev zeroL (cap : Nat) : Obj := .cells (madeCells #[.string ⟨#[]⟩, .string ⟨#[]⟩] (cap * 2)) 58
theorem run_makeL (t : TypeId) (ht : Yba.prog.underlying t = some (.slice 58)) (n cap : Nat) (l c : Int) (hl : l = n) (hc : c = cap) (h1 : n ≤ cap) (hcap : cap ≤ 1000000) (w : World) :
    (Instr.makeSlice t (.int .i64 l) (.int .i64 c)).run Yba.prog w = .ok (.slice (some ⟨w.heap.size, 0, none⟩) n cap) (w.alloc (zeroL cap)) := by
  subst hl hc
  obtain ⟨i, hi, hz⟩ := Option.map_eq_some_iff.1 makeL
  simp only [Prod.mk.injEq] at hz
  obtain ⟨hz, hs, hb⟩ := hz
  obtain ⟨z, hz1, hz2⟩ := Option.map_eq_some_iff.1 hz
  have hr := run_make (P := Yba.prog) w t 58 i z ht hi hz1 .i64 .i64 n cap (by omega) (by omega) (by rw [hb]; omega) (by omega)
  rw [hr, hz2, hs]
  simp [zeroL]
theorem row_zeroL (w : World) (cap : Nat) : LRow (w.alloc (zeroL cap)) w.heap.size cap (fun _ => (⟨#[]⟩, ⟨#[]⟩)) := by
  refine ⟨cap * 2, fun _ => .string ⟨#[]⟩, Nat.le_refl _, ⟨_, Deep.blk_alloc_new _ _, size_madeCells _ _, fun i hi => ?_⟩, fun _ _ => ⟨rfl, rfl⟩⟩
  have : i % 2 = 0 ∨ i % 2 = 1 := by omega
  rcases this with e | e <;> simp [madeCells, hi, e]

theorem Chg.mono {w w' : World} {S S' : Nat → Prop} (h : Chg w w' S) (hs : ∀ k, S k → S' k) : Chg w w' S' := ⟨h.os, h.tape, h.output, h.size, fun k hk hn => h.block k hk (fun e => hn (hs k e))⟩
theorem Chg.fresh {w w' : World} {S S' : Nat → Prop} (h : Chg w w' S) (hs : ∀ k, S k → w.heap.size ≤ k) : Chg w w' S' := ⟨h.os, h.tape, h.output, h.size, fun k hk _ => h.block k hk (fun e => by have := hs k e; omega)⟩
theorem LRow.le {w : World} {g n m : Nat} {f : Nat → Lab} (h : LRow w g n f) (hm : m ≤ n) : LRow w g m f := by
  obtain ⟨N, v, hN, hr, hf⟩ := h
  exact ⟨N, v, by omega, hr, fun i hi => hf i (by omega)⟩
theorem StrV.get {w : World} {a : Option Addr} {n cap i : Nat} {s : Nat → ByteArray} (h : StrV w (.slice a n cap) n s) (hi : i < n) : ∃ g, a = some ⟨g, 0, none⟩ ∧ w.cell? ⟨g, i, none⟩ = some (.string (s i)) := by
  rcases h with ⟨_, h0⟩ | ⟨g, c, e, _, _, hc⟩
  · omega
  · cases e
    exact ⟨g, rfl, hc i hi⟩
/-- the loop over many -/
structure Acc1 (w wr : World) (g k i : Nat) (h : Nat → Lab) (fM : Nat → Lab) (keep : Lab → Bool) (cap : Nat) : Prop where
  le : k ≤ i
  row : LRow wr g cap h
  lst : lst h k = (lst fM i).filter keep
  chg : Chg w wr (fun j => j = g)
theorem Acc1.yes {w wr w3 : World} {g k i cap : Nat} {h fM : Nat → Lab} {keep : Lab → Bool} (a : Acc1 w wr g k i h fM keep cap) (hk : keep (fM i) = true) (hr : LRow w3 g cap (updL h k (fM i))) (hc : Chg wr w3 (fun j => j = g)) :
    Acc1 w w3 g (k + 1) (i + 1) (updL h k (fM i)) fM keep cap :=
  ⟨by have := a.le; omega, hr, by rw [lst_upd, a.lst, lst_succ, List.filter_append]; simp [hk], a.chg.trans hc (fun _ e => .inl e)⟩
theorem Acc1.no {w wr w3 : World} {g k i cap : Nat} {h fM : Nat → Lab} {keep : Lab → Bool} (a : Acc1 w wr g k i h fM keep cap) (hk : keep (fM i) = false) (hc : Chg wr w3 (fun _ => False)) :
    Acc1 w w3 g k (i + 1) h fM keep cap :=
  ⟨by have := a.le; omega, a.row.chg hc (fun e => e), by rw [a.lst, lst_succ, List.filter_append]; simp [hk], a.chg.trans hc (fun _ e => e.elim)⟩

/-- between the worlds of a round: nothing old has turned, the label lies in block L -/
structure Pk (wr wc : World) (L : Nat) (x : Lab) : Prop where
  chg : Chg wr wc (fun _ => False)
  l0 : wc.cell? ⟨L, 0, none⟩ = some (.string x.1)
  l1 : wc.cell? ⟨L, 1, none⟩ = some (.string x.2)
theorem Pk.drewN {wr wc : World} {L : Nat} {x : Lab} (h : Pk wr wc L x) (q : Nat) : Pk wr (wc.drewN q) L x := ⟨h.chg.drewN q, h.l0, h.l1⟩
theorem incL_succ (nO : Nat) (fO : Nat → Lab) (n : Nat) (sI : Nat → ByteArray) : incL nO fO (n + 1) sI = incL nO fO n sI ++ [(sI n, getN fO nO (sI n))] := by
  unfold incL; simp [List.range_succ]

set_option maxRecDepth 100000 in
set_option maxHeartbeats 400000 in
theorem c_result (B O : Nat) (ar rb on : Bool) (c : Int) (nm inc : Value) (nN : Nat) (sN : Nat → ByteArray) (nI : Nat) (sI : Nat → ByteArray) (gM CM nM : Nat) (fM : Nat → Lab) (gO CO nO : Nat) (fO : Nat → Lab) (w : World)
    (hB : BEx w B O ar rb on c nm inc) (hN : StrV w nm nN sN) (hI : StrV w inc nI sI) (hM : LRow w gM nM fM) (hO : LRow w gO nO fO) (bI : nI ≤ 256) (bM : nM ≤ 256) (bO : nO ≤ 256) :
    Calls Yba.prog 14 #[.pointer (some ⟨B, 0, none⟩), .slice (some ⟨gM, 0, none⟩) nM CM, .slice (some ⟨gO, 0, none⟩) nO CO] w fun e w' => ∃ g C k h, e = .returned (.slice (some ⟨g, 0, none⟩) k C) ∧ k ≤ 1000 ∧
      w.heap.size ≤ g ∧ LRow w' g k h ∧ Sol (lst h k) ((baseL (ar || rb) (c == 0) on nN sN nI sI nM fM nO fO).filter neV) ∧ Chg w w' (fun _ => False) := by
  obtain ⟨ai, ci, rfl, _⟩ := hI.form
  have h7 := hB.inc
  have hmk := run_makeL 27 Yba.underlying27 0 (nM + nI) 0 ((nM : Int) + (nI : Int)) rfl (by omega) (by omega) (by omega) w
  go_enter Yba.func14, Yba.ntmps14
  go_wp2
  clear hmk h7
  have hg0 : ∀ S, Chg w (w.alloc (zeroL (nM + nI))) S := fun S => (Chg.refl w S).alloc _
  have hrow := row_zeroL w (nM + nI)
  generalize hgg : w.heap.size = g at hrow ⊢
  generalize hcap : nM + nI = cap at hrow ⊢
  have hcap1 : cap ≤ nM + nI := by omega
  have hcap2 : nM + nI ≤ cap := by omega
  have hgw : w.heap.size ≤ g := by omega
  have hgw2 : g ≤ w.heap.size := by omega
  rw [hcap] at hg0
  clear hcap hgg
  go_loopw [8, 27] (fun o i wr => ∃ (k i' : Nat) (h : Nat → Lab), i' ≤ nM ∧ o = .slice (some ⟨g, 0, none⟩) k cap ∧ i = .int .i64 i' ∧ Acc1 w wr g k i' h fM (keepL (ar || rb) (c == 0) on nN sN nI sI) cap) (fun _ i _ => nM - (intOf i).toNat)
  case atStart => exact ⟨0, 0, _, by omega, rfl, rfl, ⟨Nat.le_refl _, hrow, rfl, hg0 _⟩⟩
  case round =>
    clear hrow hg0
    obtain ⟨k, i, h, hin, rfl, rfl, ha⟩ := hrel
    by_cases hlt : i < nM
    · have hM' := hM.chg ha.chg (fun e => by have := hM.lt; omega)
      have a0 := hM'.cell0 hlt
      have a1 := hM'.cell1 hlt
      have ha1 : Chg w (wr.alloc (.cells #[.string (fM i).1, .string (fM i).2] 58)) (fun j => j = g) := ha.chg.alloc _
      have hal : Chg wr (wr.alloc (.cells #[.string (fM i).1, .string (fM i).2] 58)) (fun _ => False) := (Chg.refl wr _).alloc _
      have l0 := new0 wr (.string (fM i).1) (.string (fM i).2) 58 wr.heap.size rfl
      have l1 := new1 wr (.string (fM i).1) (.string (fM i).2) 58 wr.heap.size rfl
      go_upto_region 7 with fail
      generalize hLL : wr.heap.size = L at l0 l1 ⊢
      generalize (wr.alloc (.cells #[.string (fM i).1, .string (fM i).2] 58)) = w1 at ha1 hal l0 l1 ⊢
      clear hLL a0 a1 hM'
      have hB1 : BEx w1 B O ar rb on c nm (.slice ai nI ci) := hB.chg ha1 (fun e => by have := hB.lt; omega) (fun e => by have := hB.ltO; omega)
      have hN1 : StrV w1 nm nN sN := hN.chg ha1 (fun k hk e => by have := hN.blk k hk; omega)
      have hI1 : StrV w1 (.slice ai nI ci) nI sI := hI.chg ha1 (fun k hk e => by have := hI.blk k hk; omega)
      have b4 := hB1.card
      have b5 := hB1.on
      have b6 := hB1.nm
      have b7 := hB1.inc
      have hpk : Pk wr w1 L (fM i) := ⟨hal, l0, l1⟩
      go_cut [35] from 28 to 73 (fun v wc => v = .bool (isMeta (fM i) && (ar || rb)) ∧ wc = w1)
      case first =>
        cases hm : isMeta (fM i) with
        | true =>
          have hd : ((fM i).1.toList == [95, 95, 110, 97, 109, 101, 95, 95]) = true := hm
          go_wp2_with fail
          refine (c_drops B O ar rb on c nm _ w1 hB1).mono ?_
          rintro e w' ⟨rfl, rfl⟩
          go_wp2
          go_meet
          exact ⟨by rw [hm]; rfl, rfl⟩
        | false =>
          have hd : ((fM i).1.toList == [95, 95, 110, 97, 109, 101, 95, 95]) = false := hm
          go_wp2
          go_meet
          exact ⟨by rw [hm]; rfl, rfl⟩
      case rest =>
        obtain ⟨rfl, rfl⟩ := hcut
        rename World => w2
        cases h1 : (isMeta (fM i) && (ar || rb)) with
        | true =>
          have hk : keepL (ar || rb) (c == 0) on nN sN nI sI (fM i) = false := by unfold keepL; rw [h1]; rfl
          have ha2 := ha.no hk hal
          go_wp2
          go_roundw
          case rel => exact ⟨k, i + 1, h, by omega, rfl, by go_num, ha2⟩
          case measure => simp [intOf]; omega
        | false =>
          go_upto_region 8 with fail
          go_cut [43] from 28 to 73 (fun v wc => v = .bool ((c == 0) && (hasN sN nN (fM i).1 != on)) ∧ Pk wr wc L (fM i))
          case first =>
            cases h2 : (c == 0) with
            | true =>
              go_quiet (first | (go_at_call 11; exact Calls.quiet_of_same (c_contains nm nN sN (fM i).1 _ hN1)))
              go_wp2
              go_meet
              exact ⟨by rw [h2]; rfl, hpk.drewN _⟩
            | false =>
              go_quiet (fail)
              go_wp2
              go_meet
              exact ⟨by rw [h2]; rfl, hpk.drewN _⟩
          case rest =>
            obtain ⟨rfl, hpk3⟩ := hcut
            rename World => w3
            clear hpk hal l0 l1 hB1 hN1 hI1 b4 b5 b6 b7 ha1
            have ha3 : Chg w w3 (fun j => j = g) := ha.chg.trans hpk3.chg (fun _ e => e.elim)
            have hI3 : StrV w3 (.slice ai nI ci) nI sI := hI.chg ha3 (fun k hk e => by have := hI.blk k hk; omega)
            have hB3 : BEx w3 B O ar rb on c nm (.slice ai nI ci) := hB.chg ha3 (fun e => by have := hB.lt; omega) (fun e => by have := hB.ltO; omega)
            have b7 := hB3.inc
            have l0 := hpk3.l0
            have l1 := hpk3.l1
            cases h2 : ((c == 0) && (hasN sN nN (fM i).1 != on)) with
            | true =>
              have hk : keepL (ar || rb) (c == 0) on nN sN nI sI (fM i) = false := by unfold keepL; rw [h1, h2]; rfl
              have ha2 := ha.no hk hpk3.chg
              go_wp2
              go_roundw
              case rel => exact ⟨k, i + 1, h, by omega, rfl, by go_num, ha2⟩
              case measure => simp [intOf]; omega
            | false =>
              go_upto_region 9 with fail
              go_cut [65] from 28 to 73 (fun v wc => v = .bool (hasN sI nI (fM i).1) ∧ Pk wr wc L (fM i))
              case first =>
                go_quiet (first | (go_at_call 11; exact Calls.quiet_of_same (c_contains _ nI sI (fM i).1 _ hI3)))
                go_wp2
                go_meet
                exact ⟨rfl, hpk3.drewN _⟩
              case rest =>
                obtain ⟨rfl, hpk4⟩ := hcut
                rename World => w4
                clear hpk3 ha3 hI3 hB3 b7 l0 l1
                have l0 := hpk4.l0
                have l1 := hpk4.l1
                have hk' : keepL (ar || rb) (c == 0) on nN sN nI sI (fM i) = !hasN sI nI (fM i).1 := by unfold keepL; rw [h1, h2]; rfl
                cases h3 : hasN sI nI (fM i).1 with
                | true =>
                  rw [h3] at hk'
                  have ha2 := ha.no hk' hpk4.chg
                  go_wp2
                  go_roundw
                  case rel => exact ⟨k, i + 1, h, by omega, rfl, by go_num, ha2⟩
                  case measure => simp [intOf]; omega
                | false =>
                  rw [h3] at hk'
                  have hr4 := (ha.row.chg hpk4.chg (fun e => e)).alloc (.cells #[.string (fM i).1, .string (fM i).2] 58)
                  have hle := ha.le
                  have hc4 : Chg wr (w4.alloc (.cells #[.string (fM i).1, .string (fM i).2] 58)) (fun j => j = g) := (hpk4.chg.trans (S' := fun _ => False) ((Chg.refl w4 _).alloc (.cells #[.string (fM i).1, .string (fM i).2] 58)) (fun _ e => e.elim)).mono (fun _ e => e.elim)
                  go_wp2_with (at_builtin; refine wpList_app _ rfl (.tmp 31) (.tmp 33) rfl g k cap cap h (fM i) rfl hr4 (by omega) (by omega) w4.heap.size 1 rfl (new0 _ _ _ _ _ rfl) (new1 _ _ _ _ _ rfl) ?_)
                  intro w5 hr5 hc5
                  have ha2 := ha.yes hk' hr5 (hc4.trans hc5 (fun _ e => .inl e))
                  clear l0 l1
                  go_wp2
                  go_roundw
                  case rel => exact ⟨k + 1, i + 1, _, by omega, rfl, by go_num, ha2⟩
                  case measure => simp [intOf]; omega
    · obtain rfl : i = nM := by omega
      have hd : decide ((i : Int) < (i : Int)) = false := by simp
      have hB1 : BEx wr B O ar rb on c nm (.slice ai nI ci) := hB.chg ha.chg (fun e => by have := hB.lt; omega) (fun e => by have := hB.ltO; omega)
      have b7 := hB1.inc
      go_wp2
      clear b7 hB1
      rename World => w6
      go_loopw [8, 79] (fun o i2 wr => ∃ (j K : Nat) (h2 : Nat → Lab), j ≤ nI ∧ K ≤ k + j ∧ k + j ≤ K ∧ o = .slice (some ⟨g, 0, none⟩) K cap ∧ i2 = .int .i64 j ∧ LRow wr g cap h2 ∧ Hid (lst h2 K = lst h k ++ incL nO fO j sI) ∧ Chg w wr (fun j => j = g)) (fun _ i _ => nI - (intOf i).toNat)
      case atStart => exact ⟨0, k, h, by omega, by omega, by omega, rfl, rfl, ha.row, (show lst h k = lst h k ++ incL nO fO 0 sI by simp [incL]), ha.chg⟩
      case round =>
        obtain ⟨j, K, h2, hjn, hK1, hK2, rfl, rfl, hr2, he2, hc2⟩ := hrel
        have hki := ha.le
        by_cases hlj : j < nI
        · obtain ⟨gI, rfl, hcell⟩ := (hI.chg hc2 (fun k hk e => by have := hI.blk k hk; omega)).get hlj
          have hO2 := hO.chg hc2 (fun e => by have := hO.lt; omega)
          rename World => w7
          go_wp2_with fail
          refine (c_get gO CO nO fO (sI j) w7 (by omega) hO2).mono ?_
          rintro e w8 ⟨rfl, hc8⟩
          have hr8 := (hr2.chg hc8 (fun e => e)).alloc (.cells #[.string (sI j), .string (getN fO nO (sI j))] 58)
          have hc9 : Chg w (w8.alloc (.cells #[.string (sI j), .string (getN fO nO (sI j))] 58)) (fun j => j = g) := (hc2.trans hc8 (fun _ e => e.elim)).alloc _
          clear hcell
          go_wp2_with (at_builtin; refine wpList_app _ rfl (.tmp 83) (.tmp 89) rfl g K cap cap h2 (sI j, getN fO nO (sI j)) rfl hr8 (by omega) (by omega) w8.heap.size 1 rfl (new0 _ _ _ _ _ rfl) (new1 _ _ _ _ _ rfl) ?_)
          intro w9 hr9 hc10
          have he3 : Hid (lst (updL h2 K (sI j, getN fO nO (sI j))) (K + 1) = lst h k ++ incL nO fO (j + 1) sI) := by
            show lst (updL h2 K (sI j, getN fO nO (sI j))) (K + 1) = lst h k ++ incL nO fO (j + 1) sI
            rw [lst_upd, he2.out, incL_succ, List.append_assoc]
          go_wp2
          go_roundw
          case rel => exact ⟨j + 1, K + 1, _, by omega, by omega, by omega, rfl, by go_num, hr9, he3, hc9.trans hc10 (fun _ e => .inl e)⟩
          case measure => simp [intOf]; omega
        · obtain rfl : j = nI := by omega
          have hd2 : decide ((j : Int) < (j : Int)) = false := by simp
          rename World => w7
          go_wp2_with fail
          refine (s_sortLabels cap g K h2 w7 (hr2.le (by omega)) (by omega) (by omega)).mono ?_
          rintro e w8 ⟨k2, h3, rfl, hk2, hr3, hsol, hc3⟩
          rw [he2.out, ha.lst] at hsol
          have hcf : Chg w w8 (fun _ => False) := (hc2.trans hc3 (fun _ e => .inl e)).fresh (fun k e => by omega)
          go_wp2
          go_ret
          exact ⟨g, cap, k2, h3, rfl, by omega, hgw, hr3.le hk2, hsol, hcf⟩
end Go.Proofs.Ybulkafyg
