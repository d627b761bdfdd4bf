/-
  The law's own walk.
-/
import Derived.Test.YbulkafygSmall
import Derived.Deep.DeepAppendRoom
import Derived.Laws.EntriesVeiled
namespace Go.Proofs.Ybulkafyg
open Go.RowKit

/-- the sets as they are handed in -/
def SetsIn (w : World) (ao : Option Addr) (N : Nat) : Prop :=
  N = 0 ∨ ∃ (b off : Nat) (A : Nat → Option Addr) (L C : Nat → Nat) (S : Nat → Nat → Lab), ao = some ⟨b, off, none⟩ ∧ b < w.heap.size ∧ ∀ r, r < N → w.cell? ⟨b, off + r, none⟩ = some (.slice (A r) (L r) (C r)) ∧ SrcL w (A r) (L r) (S r)
/-- the steps as they are handed in -/
def StepsIn (w : World) (ao : Option Addr) (N : Nat) : Prop :=
  N = 0 ∨ ∃ (b off : Nat) (m o t : Nat → Nat), ao = some ⟨b, off, none⟩ ∧ b < w.heap.size ∧ ∀ r, r < N → w.cell? ⟨b, off + r * 3, none⟩ = some (.int .u8 (m r)) ∧ w.cell? ⟨b, off + r * 3 + 1, none⟩ = some (.int .u8 (o r)) ∧ w.cell? ⟨b, off + r * 3 + 2, none⟩ = some (.int .u8 (t r)) ∧ m r < 256 ∧ o r < 256 ∧ t r < 256

/-- the pool: each member's block, length, labels -/
abbrev PList := List (Nat × Nat × (Nat → Lab))
def poolV (PL : PList) : List Value := PL.map fun p => .slice (some ⟨p.1, 0, none⟩) p.2.1 p.2.1
structure PoolIs (base : Nat) (w : World) (P cap : Nat) (PL : PList) : Prop where
  own : w.ownsRow base 28 1 (.slice (some ⟨P, 0, none⟩) PL.length cap) PL.length (poolV PL)
  row : ∀ p ∈ PL, LRow w p.1 p.2.1 p.2.2 ∧ p.2.1 ≤ 256

theorem PoolIs.chg {base : Nat} {w w' : World} {P cap : Nat} {PL : PList} (h : PoolIs base w P cap PL) (hc : Chg w w' (fun _ => False)) : PoolIs base w' P cap PL :=
  ⟨own_of_block h.own (fun k hk => by obtain ⟨_, c, hb⟩ := own_block h.own k hk; exact hc.block k (blk_lt hb) (fun e => e)), fun p hp => ⟨(h.row p hp).1.chg hc (fun e => e), (h.row p hp).2⟩⟩

theorem SetsIn.form {w : World} {ao : Option Addr} {N : Nat} (h : SetsIn w ao N) : ∃ (b off : Nat) (A : Nat → Option Addr) (L C : Nat → Nat) (S : Nat → Nat → Lab), (0 < N → ao = some ⟨b, off, none⟩ ∧ b < w.heap.size) ∧ ∀ r, r < N → w.cell? ⟨b, off + r, none⟩ = some (.slice (A r) (L r) (C r)) ∧ SrcL w (A r) (L r) (S r) := by
  rcases h with rfl | ⟨b, off, A, L, C, S, h1, h2, h3⟩
  · exact ⟨0, 0, fun _ => none, fun _ => 0, fun _ => 0, fun _ _ => (⟨#[]⟩, ⟨#[]⟩), fun h => by omega, fun r hr => by omega⟩
  · exact ⟨b, off, A, L, C, S, fun _ => ⟨h1, h2⟩, h3⟩
theorem StepsIn.form {w : World} {ao : Option Addr} {N : Nat} (h : StepsIn w ao N) : ∃ (b off : Nat) (m o t : Nat → Nat), (0 < N → ao = some ⟨b, off, none⟩ ∧ b < w.heap.size) ∧ ∀ r, r < N → w.cell? ⟨b, off + r * 3, none⟩ = some (.int .u8 (m r)) ∧ w.cell? ⟨b, off + r * 3 + 1, none⟩ = some (.int .u8 (o r)) ∧ w.cell? ⟨b, off + r * 3 + 2, none⟩ = some (.int .u8 (t r)) ∧ m r < 256 ∧ o r < 256 ∧ t r < 256 := by
  rcases h with rfl | ⟨b, off, m, o, t, h1, h2, h3⟩
  · exact ⟨0, 0, fun _ => 0, fun _ => 0, fun _ => 0, fun h => by omega, fun r hr => by omega⟩
  · exact ⟨b, off, m, o, t, fun _ => ⟨h1, h2⟩, h3⟩
theorem SrcL.chg {w w' : World} {ao : Option Addr} {n : Nat} {s : Nat → Lab} (h : SrcL w ao n s) (hc : Chg w w' (fun _ => False)) : SrcL w' ao n s := by
  rcases h with h | ⟨b, off, e, hb, h⟩
  · exact .inl h
  · have hk := hc.block b hb (fun e => e)
    exact .inr ⟨b, off, e, Nat.lt_of_lt_of_le hb hc.size, fun i hi => ⟨(World.cell?_of_block (a := ⟨b, off + i * 2, none⟩) hk).trans (h i hi).1, (World.cell?_of_block (a := ⟨b, off + i * 2 + 1, none⟩) hk).trans (h i hi).2⟩⟩
theorem SrcS.chg {w w' : World} {ao : Option Addr} {n : Nat} {s : Nat → ByteArray} (h : SrcS w ao n s) (hc : Chg w w' (fun _ => False)) : SrcS w' ao n s := by
  rcases h with h | ⟨b, off, e, hb, h⟩
  · exact .inl h
  · have hk := hc.block b hb (fun e => e)
    exact .inr ⟨b, off, e, Nat.lt_of_lt_of_le hb hc.size, fun i hi => (World.cell?_of_block (a := ⟨b, off + i, none⟩) hk).trans (h i hi)⟩
theorem PoolIs.push {base : Nat} {w w' : World} {P cap : Nat} {PL : PList} (h : PoolIs base w P cap PL) {g n : Nat} {f : Nat → Lab} (hn : n ≤ 256) (hr : LRow w g n f)
    (ho : w'.ownsRow base 28 1 (.slice (some ⟨P, 0, none⟩) (PL.length + 1) cap) (PL.length + 1) (poolV PL ++ [.slice (some ⟨g, 0, none⟩) n n])) (hg : w.grownBy w' (some P)) : PoolIs base w' P cap (PL ++ [(g, n, f)]) := by
  obtain ⟨_, cP, hbP⟩ := own_block h.own P rfl
  have keep : ∀ {g n : Nat} {f : Nat → Lab}, LRow w g n f → LRow w' g n f := fun {g n f} hr => by
    have hne : g ≠ P := by
      rintro rfl
      obtain ⟨N, v, _, ⟨c, hb, _, _⟩, _⟩ := hr
      rw [hb] at hbP; cases hbP
    exact hr.of_block (hg.block g hr.lt (fun e => hne (by cases e; rfl)))
  refine ⟨by simpa [poolV] using ho, fun p hp => ?_⟩
  rcases List.mem_append.1 hp with h' | h'
  · exact ⟨keep (h.row p h').1, (h.row p h').2⟩
  · rw [show p = (g, n, f) by simpa using h']
    exact ⟨keep hr, hn⟩
theorem row_nil (w : World) (f : Nat → Lab) : LRow (w.alloc (.cells #[] 58)) w.heap.size 0 f :=
  ⟨0, fun _ => undef, by omega, ⟨#[], Deep.blk_alloc_new _ _, rfl, fun i hi => by omega⟩, fun i hi => by omega⟩
theorem bex_new (w : World) (ar rb on : Bool) (c : Int) (nm inc : Value) :
    BEx ((w.alloc (.cells #[.int .i64 0, .bool false, arV ar, .nilFunc, .nilFunc] 36)).alloc (.cells #[.pointer (some ⟨w.heap.size, 0, none⟩), .nilIface, .nilIface, .bool rb, .int .i64 c, .bool on, nm, inc, .int .i64 0, .int .i64 0] 48)) (w.heap.size + 1) w.heap.size ar rb on c nm inc := by
  have hsz : (w.alloc (.cells #[.int .i64 0, .bool false, arV ar, .nilFunc, .nilFunc] 36)).heap.size = w.heap.size + 1 := by simp
  have hB := Deep.blk_alloc_new (w.alloc (.cells #[.int .i64 0, .bool false, arV ar, .nilFunc, .nilFunc] 36)) (.cells #[.pointer (some ⟨w.heap.size, 0, none⟩), .nilIface, .nilIface, .bool rb, .int .i64 c, .bool on, nm, inc, .int .i64 0, .int .i64 0] 48)
  rw [hsz] at hB
  have hO := (Deep.blk_alloc_lt (w.alloc (.cells #[.int .i64 0, .bool false, arV ar, .nilFunc, .nilFunc] 36)) (.cells #[.pointer (some ⟨w.heap.size, 0, none⟩), .nilIface, .nilIface, .bool rb, .int .i64 c, .bool on, nm, inc, .int .i64 0, .int .i64 0] 48) w.heap.size (by rw [hsz]; omega)).trans (Deep.blk_alloc_new w _)
  refine ⟨?_, ?_, ?_, ?_, ?_, ?_, ?_, by simp, by simp; omega⟩
  · rw [cell_of_row _ _ 0 _ _ _ hB]; rfl
  · rw [cell_of_row _ _ 3 _ _ _ hB]; rfl
  · rw [cell_of_row _ _ 4 _ _ _ hB]; rfl
  · rw [cell_of_row _ _ 5 _ _ _ hB]; rfl
  · rw [cell_of_row _ _ 6 _ _ _ hB]; rfl
  · rw [cell_of_row _ _ 7 _ _ _ hB]; rfl
  · rw [cell_of_row _ _ 2 _ _ _ hO]; rfl
def strOf : Option Value → ByteArray
  | some (.string s) => s
  | _ => ⟨#[]⟩
/-- the labels of a block -/
def contF (w : World) : Option Nat → Nat → Lab
  | some g, i => (strOf (w.cell? ⟨g, i * 2, none⟩), strOf (w.cell? ⟨g, i * 2 + 1, none⟩))
  | none, _ => (⟨#[]⟩, ⟨#[]⟩)
theorem lst_cont {w : World} {g n : Nat} {f : Nat → Lab} (h : LRow w g n f) : lst (contF w (ptrO g n)) n = lst f n := by
  apply lst_congr
  intro i hi
  have : ptrO g n = some g := by unfold ptrO; rw [if_neg (by omega)]
  rw [this]
  show (strOf _, strOf _) = f i
  rw [h.cell0 hi, h.cell1 hi]
  rfl
theorem baseL_congr {dr c0 on : Bool} {nN : Nat} {sN : Nat → ByteArray} {nI : Nat} {sI : Nat → ByteArray} {nM nO : Nat} {fM fM' fO fO' : Nat → Lab} (h1 : lst fM nM = lst fM' nM) (h2 : lst fO nO = lst fO' nO) : baseL dr c0 on nN sN nI sI nM fM nO fO = baseL dr c0 on nN sN nI sI nM fM' nO fO' := by
  unfold baseL incL getN
  rw [h1, h2]
def ResF (w : World) (dr c0 on : Bool) (nN : Nat) (sN : Nat → ByteArray) (nI : Nat) (sI : Nat → ByteArray) (k : Key) : List Lab :=
  (baseL dr c0 on nN sN nI sI k.n.toNat (contF w k.a) k.m.toNat (contF w k.b)).filter neV
theorem resF_eq {w : World} {dr c0 on : Bool} {nN : Nat} {sN : Nat → ByteArray} {nI : Nat} {sI : Nat → ByteArray} {gM nM gO nO : Nat} {fM fO : Nat → Lab} (h1 : LRow w gM nM fM) (h2 : LRow w gO nO fO) :
    ResF w dr c0 on nN sN nI sI (keyOf gM nM gO nO) = (baseL dr c0 on nN sN nI sI nM fM nO fO).filter neV := by
  unfold ResF keyOf
  simp only [Int.toNat_natCast]
  rw [baseL_congr (lst_cont h1) (lst_cont h2)]
theorem PoolIs.at {base : Nat} {w : World} {P cap n : Nat} {PL : PList} (h : PoolIs base w P cap PL) (h1 : PL.length ≤ n) (h2 : n ≤ PL.length) {j : Nat} (hj : j < n) :
    ∃ g l f, w.cell? ⟨P, j, none⟩ = some (.slice (some ⟨g, 0, none⟩) l l) ∧ LRow w g l f ∧ l ≤ 256 := by
  have hj' : j < PL.length := by omega
  refine ⟨PL[j].1, PL[j].2.1, PL[j].2.2, ?_, (h.row PL[j] (List.getElem_mem hj')).1, (h.row PL[j] (List.getElem_mem hj')).2⟩
  rw [h.own.cellAt j (by omega)]
  simp [poolV, hj']
theorem neq56 (a : Addr) (w : World) : (binOp .neq 56 (.pointer (some a)) (.pointer (some a))).run Yba.prog w = .ok (.bool false) w := by
  have hp : Yba.prog.underlying 56 = some (.pointer 58) := by kernel_rfl
  have hinfo : (Yba.prog.info? 58).map (fun i => i.size) = some 2 := by kernel_rfl
  obtain ⟨i, hi, _⟩ := Option.map_eq_some_iff.1 hinfo
  have hd : ∀ d : Nat, (Op.equalIn (d + 1) 56 (.pointer (some a)) (.pointer (some a))).run Yba.prog w = .ok true w := fun d => by
    simp [Op.equalIn, run_underlying hp, sizeOf, typeInfo, hi, run_sameAddr_same]
  have he : (Op.equalIn 10000 56 (.pointer (some a)) (.pointer (some a))).run Yba.prog w = .ok true w := hd 9999
  simp only [binOp]
  simp [Op.equal, Op.maxDepth, he]
theorem info28 : (Yba.prog.info? 28).map (fun i => (i.zero, i.size, i.bytes)) = some (some (.slice none 0 0), 1, 24) := by kernel_rfl
theorem run_make26 (cap : Nat) (c : Int) (hc : c = cap) (hcap : cap ≤ 1000000) (w : World) :
    (Instr.makeSlice 26 (.int .i64 0) (.int .i64 c)).run Yba.prog w = .ok (.slice (some ⟨w.heap.size, 0, none⟩) 0 cap) (w.alloc (.cells (madeCells #[.slice none 0 0] cap) 28)) := by
  subst hc
  obtain ⟨i, hi, hz⟩ := Option.map_eq_some_iff.1 info28
  simp only [Prod.mk.injEq] at hz
  obtain ⟨hz, hs, hb⟩ := hz
  have hr := run_make (P := Yba.prog) w 26 28 i _ Yba.underlying26 hi hz .i64 .i64 0 cap (by omega) (by omega) (by rw [hb]; omega) (by omega)
  rw [hr, hs]
  simp [Value.cells]

set_option maxRecDepth 100000 in
set_option maxHeartbeats 4000000 in
theorem walk (ar rb on : Bool) (card limit : Nat) (aN aI aS aT : Option Addr) (nN cN nI cI nS cS nT cT : Nat) (sN sI : Nat → ByteArray) (w : World) (hcard : card < 256) (hlimit : limit < 256)
    (hN : SrcS w aN nN sN) (zN : aN = none → nN = 0 ∧ cN = 0) (hI : SrcS w aI nI sI) (zI : aI = none → nI = 0 ∧ cI = 0) (hS : SetsIn w aS nS) (hT : StepsIn w aT nT) :
    Calls Yba.prog 3 #[.bool ar, .bool rb, .int .u8 card, .bool on, .slice aN nN cN, .slice aI nI cI, .slice aS nS cS, .slice aT nT cT, .int .u8 limit] w fun e w' => e = .returned (.bool true) ∧ Chg w w' (fun _ => False) := by
  go_enter Yba.func3, Yba.ntmps3
  go_upto_region 1 with fail
  go_cut [55] from 38 to 54 (fun v wc => v = .bool (decide (256 < nN ∨ 256 < nI ∨ 256 < nS ∨ 256 < nT)) ∧ wc = w)
  case first =>
    by_cases h1 : 256 < nN
    · have d1 : decide ((256 : Int) < (nN : Int)) = true := by simp; omega
      go_wp2
      go_meet
      exact ⟨by simp [h1], rfl⟩
    · have d1 : decide ((256 : Int) < (nN : Int)) = false := by simp; omega
      by_cases h2 : 256 < nI
      · have d2 : decide ((256 : Int) < (nI : Int)) = true := by simp; omega
        go_wp2
        go_meet
        exact ⟨by simp [h2], rfl⟩
      · have d2 : decide ((256 : Int) < (nI : Int)) = false := by simp; omega
        by_cases h3 : 256 < nS
        · have d3 : decide ((256 : Int) < (nS : Int)) = true := by simp; omega
          go_wp2
          go_meet
          exact ⟨by simp [h3], rfl⟩
        · have d3 : decide ((256 : Int) < (nS : Int)) = false := by simp; omega
          by_cases h4 : 256 < nT
          · have d4 : decide ((256 : Int) < (nT : Int)) = true := by simp; omega
            go_wp2
            go_meet
            exact ⟨by simp [h4], rfl⟩
          · have d4 : decide ((256 : Int) < (nT : Int)) = false := by simp; omega
            go_wp2
            go_meet
            exact ⟨by simp [h1, h2, h3, h4], rfl⟩
  case rest =>
    obtain ⟨rfl, rfl⟩ := hcut
    obtain ⟨big, hbig⟩ : ∃ big, Hid (big = decide (256 < nN ∨ 256 < nI ∨ 256 < nS ∨ 256 < nT)) := ⟨_, rfl⟩
    rw [← hbig.out]
    cases big with
    | true =>
      go_wp2
      go_ret
      exact ⟨rfl, Chg.refl _ _⟩
    | false =>
      have hb : ¬ (256 < nN ∨ 256 < nI ∨ 256 < nS ∨ 256 < nT) := of_decide_eq_false hbig.out.symm
      have b1 : nN ≤ 256 := by omega
      have b2 : nI ≤ 256 := by omega
      have b3 : nS ≤ 256 := by omega
      have b4 : nT ≤ 256 := by omega
      clear hb hbig
      rename World => w
      obtain ⟨bS, oS, A, L, C, S, hS1, hS2⟩ := hS.form
      go_wp2
      go_loopw [20, 58] (fun _ i wr => ∃ r : Nat, r ≤ nS ∧ i = .int .i64 r ∧ wr = w ∧ ∀ r', r' < r → L r' ≤ 256) (fun _ i _ => nS - (intOf i).toNat)
      case atStart => exact ⟨0, by omega, rfl, rfl, fun _ _ => by omega⟩
      case round =>
        obtain ⟨r, hr, rfl, rfl, hL⟩ := hrel
        rename World => w
        by_cases hlt : r < nS
        · obtain ⟨rfl, _⟩ := hS1 (by omega)
          have hcell := (hS2 r hlt).1
          by_cases h256 : 256 < L r
          · have hd : decide ((256 : Int) < (L r : Int)) = true := by simp; omega
            clear hS hS1 hS2 hN hI hT hL
            go_wp2
            go_ret
            exact ⟨rfl, Chg.refl _ _⟩
          · have hd : decide ((256 : Int) < (L r : Int)) = false := by simp; omega
            clear hS hS1 hS2 hN hI hT
            go_wp2
            go_roundw
            case rel => exact ⟨r + 1, by omega, by go_num, trivial, fun r' h' => by rcases Nat.lt_or_ge r' r with e | e; exact hL r' e; rw [show r' = r by omega]; omega⟩
            case measure => simp [intOf]; omega
        · obtain rfl : r = nS := by omega
          have hd : decide ((r : Int) < (r : Int)) = false := by simp
          have hmk := run_make26 (r + 1) ((r : Int) + 1) (by omega) (by omega) w
          have hst : PoolIs w.heap.size (w.alloc (.cells (madeCells #[.slice none 0 0] (r + 1)) 28)) w.heap.size (r + 1) [] := ⟨World.ownsRow_made w _ (r + 1) (Nat.le_refl _) (by unfold maxLen; omega) (by simp [size_madeCells]), fun p hp => by cases hp⟩
          have hst2 : Chg w (w.alloc (.cells (madeCells #[.slice none 0 0] (r + 1)) 28)) (fun _ => False) := (Chg.refl w _).alloc _
          obtain ⟨i0, hi0, hz0⟩ := Option.map_eq_some_iff.1 info28
          simp only [Prod.mk.injEq] at hz0
          obtain ⟨hz0, hsz, hby⟩ := hz0
          go_wp2
          clear hmk
          generalize hPP : w.heap.size = P at hst ⊢
          have hPw : P ≤ w.heap.size := by omega
          have hPw2 : w.heap.size ≤ P := by omega
          clear hPP
          go_loopw [21, 72] (fun o i wr => ∃ (k : Nat) (PL : PList), k ≤ r ∧ PL.length ≤ k ∧ k ≤ PL.length ∧ o = .slice (some ⟨P, 0, none⟩) k (r + 1) ∧ i = .int .i64 k ∧ PoolIs P wr P (r + 1) PL ∧ Chg w wr (fun _ => False)) (fun _ i _ => r - (intOf i).toNat)
          case atStart => exact ⟨0, [], by omega, by simp, by simp, rfl, rfl, hst, hst2⟩
          case round =>
            clear hst hst2
            obtain ⟨k, PL, hk, hl1, hl2, rfl, rfl, hpool, hc⟩ := hrel
            by_cases hlk : k < r
            · obtain ⟨rfl, hbS⟩ := hS1 (by omega)
              have hcell := (World.cell?_of_block (a := ⟨bS, oS + k, none⟩) (hc.block bS hbS (fun e => e))).trans (hS2 k hlk).1
              have hsrc := (hS2 k hlk).2.chg hc
              have hLk := hL k hlk
              rename World => w5
              go_wp2_with fail
              refine (c_labels (A k) (L k) (C k) (S k) w5 hLk hsrc).mono ?_
              rintro e w6 ⟨rfl, hr6, hc6⟩
              have hp6 := (hpool.chg hc6)
              have hp7 := hp6.chg ((Chg.refl w6 (fun _ => False)).alloc (.cells #[.slice (some ⟨w5.heap.size, 0, none⟩) (L k) (L k)] 28))
              have hr7 := hr6.alloc (.cells #[.slice (some ⟨w5.heap.size, 0, none⟩) (L k) (L k)] 28)
              have hc7 : Chg w (w6.alloc (.cells #[.slice (some ⟨w5.heap.size, 0, none⟩) (L k) (L k)] 28)) (fun _ => False) := (hc.trans hc6 (fun _ e => e.elim)).alloc _
              have hown7 := hp7.own
              rw [show PL.length = k by omega] at hown7
              go_wp2_with (at_builtin; refine wpList_append_own_spare _ rfl (.tmp 76) (.tmp 79) 26 rfl P 28 i0 1 Yba.underlying26 hi0 hsz P k (r + 1) (poolV PL) rfl hown7 ⟨w6.heap.size, 0, none⟩ 1 1 [.slice (some ⟨w5.heap.size, 0, none⟩) (L k) (L k)] rfl rfl ?c1 ?c2 (by omega) ?_)
              case c1 => exact fun j u hu => World.news_of_block (Deep.blk_alloc_new _ _) j u (by simpa using hu)
              case c2 => intro u hu; simp at hu; subst hu; rfl
              intro w8 ho8 hg8
              have hp8 := hp7.push hLk hr7 (by rw [show PL.length = k by omega]; exact ho8) hg8
              have hc8 : Chg w w8 (fun _ => False) := hc7.grown hg8 (fun j hj => .inr (by cases hj; exact hPw2))
              clear hown7 hp7 hp6 hr7 hcell hsrc
              go_wp2
              go_roundw
              case rel => exact ⟨k + 1, _, by omega, by simp; omega, by simp; omega, rfl, by go_num, hp8, hc8⟩
              case measure => simp [intOf]; omega
            · obtain rfl : k = r := by omega
              have hd2 : decide ((k : Int) < (k : Int)) = false := by simp
              rename World => w5
              go_upto_if 84 with fail
              obtain ⟨BZ, hBZ⟩ : ∃ BZ, Hid (BZ = ((k : Int) == 0)) := ⟨_, rfl⟩
              rw [← hBZ.out]
              go_cut [21] from 85 to 88 (fun o wc => ∃ (n : Nat) (PL : PList), 0 < n ∧ n ≤ 257 ∧ PL.length ≤ n ∧ n ≤ PL.length ∧ o = .slice (some ⟨P, 0, none⟩) n (k + 1) ∧ PoolIs P wc P (k + 1) PL ∧ Chg w wc (fun _ => False))
              case first =>
                cases BZ with
                | false =>
                  have hk0 : 0 < k := by have := hBZ.out; simp at this; omega
                  go_wp2
                  go_meet
                  exact ⟨k, PL, hk0, by omega, hl1, hl2, rfl, hpool, hc⟩
                | true =>
                  have hp6 := hpool.chg ((Chg.refl w5 (fun _ => False)).alloc (.cells #[] 58))
                  have hr6 := row_nil w5 (fun _ => (⟨#[]⟩, ⟨#[]⟩))
                  have hp7 := hp6.chg ((Chg.refl _ (fun _ => False)).alloc (.cells #[.slice (some ⟨w5.heap.size, 0, none⟩) 0 0] 28))
                  have hr7 := hr6.alloc (.cells #[.slice (some ⟨w5.heap.size, 0, none⟩) 0 0] 28)
                  have hc7 := (hc.alloc (.cells #[] 58)).alloc (.cells #[.slice (some ⟨w5.heap.size, 0, none⟩) 0 0] 28)
                  have hown7 := hp7.own
                  rw [show PL.length = k by omega] at hown7
                  go_wp2_with (at_builtin; refine wpList_append_own_spare _ rfl (.tmp 85) (.tmp 87) 26 rfl P 28 i0 1 Yba.underlying26 hi0 hsz P k (k + 1) (poolV PL) rfl hown7 ⟨w5.heap.size + 1, 0, none⟩ 1 1 [.slice (some ⟨w5.heap.size, 0, none⟩) 0 0] rfl rfl ?c1 ?c2 (by omega) ?_)
                  case c1 => exact fun j u hu => World.news_of_block (by have := Deep.blk_alloc_new (w5.alloc (.cells #[] 58)) (.cells #[.slice (some ⟨w5.heap.size, 0, none⟩) 0 0] 28); simpa using this) j u (by simpa using hu)
                  case c2 => intro u hu; simp at hu; subst hu; rfl
                  intro w8 ho8 hg8
                  have hp8 := hp7.push (show 0 ≤ 256 by omega) hr7 (by rw [show PL.length = k by omega]; exact ho8) hg8
                  have hc8 : Chg w w8 (fun _ => False) := hc7.grown hg8 (fun j hj => .inr (by cases hj; exact hPw2))
                  clear hown7 hp7 hp6 hr7
                  go_wp2
                  go_meet
                  exact ⟨k + 1, _, by omega, by omega, by simp; omega, by simp; omega, rfl, hp8, hc8⟩
              case rest =>
                obtain ⟨n, PL2, hn0, hn1, hl3, hl4, rfl, hpool2, hc2⟩ := hcut
                clear hpool hc hBZ hl1 hl2 hS hS1 hS2 hL hi0 hsz hby hz0
                rename World => w6
                go_wp2_with fail
                refine (c_clone aN nN cN sN w6 b1 (hN.chg hc2) zN).mono ?_
                rintro e w7 ⟨nm, rfl, hnm7, lnm, hc7⟩
                go_wp2_with fail
                refine (c_clone aI nI cI sI w7 b2 ((hI.chg hc2).chg hc7) zI).mono ?_
                rintro e w8 ⟨inc, rfl, hinc8, linc, hc8⟩
                have hnm8 := hnm7.chg hc8 (fun _ _ e => e)
                have hp8 := (hpool2.chg hc7).chg hc8
                have hcw8 : Chg w w8 (fun _ => False) := (hc2.trans hc7 (fun _ e => e.elim)).trans hc8 (fun _ e => e.elim)
                clear hnm7 hpool2 hc2 hc7 hc8 hN hI zN zI
                obtain ⟨an, cn, rfl, _⟩ := hnm8.form
                obtain ⟨ain, cin, rfl, _⟩ := hinc8.form
                go_upto_if 95 with fail
                go_cut [] from 96 to 98 (fun wc => wc = w8.alloc (.cells #[.int .i64 0, .bool false, arV ar, .nilFunc, .nilFunc] 36))
                case first =>
                  cases ar with
                  | true =>
                    go_wp2
                    go_meet
                    rfl
                  | false =>
                    go_wp2
                    go_meet
                    rfl
                case rest =>
                  subst hcut
                  go_upto_region 28 with fail
                  have hbex := bex_new w8 ar rb on ((card : Int) % 3) (.slice an nN cn) (.slice ain nI cin)
                  have hc89 : Chg w8 ((w8.alloc (.cells #[.int .i64 0, .bool false, arV ar, .nilFunc, .nilFunc] 36)).alloc (.cells #[.pointer (some ⟨w8.heap.size, 0, none⟩), .nilIface, .nilIface, .bool rb, .int .i64 ((card : Int) % 3), .bool on, .slice an nN cn, .slice ain nI cin, .int .i64 0, .int .i64 0] 48)) (fun _ => False) := ((Chg.refl w8 _).alloc _).alloc _
                  generalize (w8.alloc (.cells #[.int .i64 0, .bool false, arV ar, .nilFunc, .nilFunc] 36)).alloc (.cells #[.pointer (some ⟨w8.heap.size, 0, none⟩), .nilIface, .nilIface, .bool rb, .int .i64 ((card : Int) % 3), .bool on, .slice an nN cn, .slice ain nI cin, .int .i64 0, .int .i64 0] 48) = w9 at hbex hc89 ⊢
                  have hnm9 := hnm8.chg hc89 (fun _ _ e => e)
                  have hinc9 := hinc8.chg hc89 (fun _ _ e => e)
                  have hp9 := hp8.chg hc89
                  have hcw9 : Chg w w9 (fun _ => False) := hcw8.trans hc89 (fun _ e => e.elim)
                  generalize w8.heap.size + 1 = B at hbex ⊢
                  generalize w8.heap.size = O at hbex ⊢
                  have hcd1 : 0 ≤ (card : Int) % 3 := by omega
                  have hlm1 : 0 ≤ (limit : Int) % 4 := by omega
                  have hlm2 : (limit : Int) % 4 < 4 := by omega
                  generalize (card : Int) % 3 = cd at hbex hcd1 ⊢
                  generalize (limit : Int) % 4 = lim at hlm1 hlm2 ⊢
                  clear hnm8 hinc8 hp8 hcw8 hc89
                  go_wp2_with fail
                  refine (c_memos lim w9).mono ?_
                  rintro e w10 ⟨rfl, hmb, hc10⟩
                  have hm10 : MemoIs (ResF w9 (ar || rb) (cd == 0) on nN sN nI sI) w9.heap.size w9.heap.size lim w10 [] [] (.slice none 0 0) (.map none) :=
                    ⟨hmb, Nat.le_refl _, .inl ⟨rfl, rfl⟩, (fun R h => by cases h), World.ownsRow_nil _ _ _ _, by simp, (fun p hp => by cases hp), (fun p hp => by cases hp)⟩
                  have hc10s : Chg w9 w10 (Sw w9.heap.size w9) := hc10.mono (fun _ e => e.elim)
                  obtain ⟨bT, oT, m, o, t, hT1, hT2⟩ := hT.form
                  clear hmb hc10 hT
                  generalize hRR : ResF w9 (ar || rb) (cd == 0) on nN sN nI sI = Res at hm10
                  have HR : Hid (ResF w9 (ar || rb) (cd == 0) on nN sN nI sI = Res) := hRR
                  clear hRR
                  generalize hMM : w9.heap.size = M at hm10 hc10s ⊢
                  have hM1 : w9.heap.size ≤ M := by omega
                  have hM2 : M ≤ w9.heap.size := by omega
                  clear hMM
                  go_wp2
                  go_loopw [134] (fun i wr => ∃ (r : Nat) (last ents : List (Key × Value)) (lv mv : Value), r ≤ nT ∧ i = .int .i64 r ∧ MemoIs Res M M lim wr last ents lv mv ∧ Chg w9 wr (Sw M w9)) (fun i _ => nT - (intOf i).toNat)
                  case atStart => exact ⟨0, _, _, _, _, by omega, rfl, hm10, hc10s⟩
                  case round =>
                    clear hm10 hc10s
                    obtain ⟨r, last, ents, lv, mv, hrT, rfl, hmi, hcr⟩ := hrel
                    rename World => wr
                    by_cases hlr : r < nT
                    · obtain ⟨rfl, hbT⟩ := hT1 (by omega)
                      have hbk : wr.heap[bT]? = w.heap[bT]? := (hcr.block bT (by have := hcw9.size; omega) (fun e => by have := e.1; have := hcw9.size; omega)).trans (hcw9.block bT hbT (fun e => e))
                      obtain ⟨s0, s1, s2, hm8, ho8, ht8⟩ := hT2 r hlr
                      have s0 := (World.cell?_of_block (a := ⟨bT, oT + r * 3, none⟩) hbk).trans s0
                      have s1 := (World.cell?_of_block (a := ⟨bT, oT + r * 3 + 1, none⟩) hbk).trans s1
                      have s2 := (World.cell?_of_block (a := ⟨bT, oT + r * 3 + 2, none⟩) hbk).trans s2
                      have hlr2 : (r : Int) < (nT : Int) := by omega
                      have hPlt : P < M := by obtain ⟨_, c, hb⟩ := own_block hp9.own P rfl; have := blk_lt hb; omega
                      have hj1 : m r % n < n := Nat.mod_lt _ hn0
                      have hj2 : o r % n < n := Nat.mod_lt _ hn0
                      obtain ⟨gM, lM, fM, pM, rM, bMl⟩ := hp9.at hl3 hl4 hj1
                      obtain ⟨gO, lO, fO, pO, rO, bOl⟩ := hp9.at hl3 hl4 hj2
                      have hPk : wr.heap[P]? = w9.heap[P]? := hcr.block P (by omega) (fun e => by have := e.1; omega)
                      have pM := (World.cell?_of_block (a := ⟨P, m r % n, none⟩) hPk).trans pM
                      have pO := (World.cell?_of_block (a := ⟨P, o r % n, none⟩) hPk).trans pO
                      have hRes : Hid (Res (keyOf gM lM gO lO) = (baseL (ar || rb) (cd == 0) on nN sN nI sI lM fM lO fO).filter neV) := by
                        show Res (keyOf gM lM gO lO) = _
                        rw [← HR.out]; exact resF_eq rM rO
                      have hat : t r % 8 < 8 := Nat.mod_lt _ (by omega)
                      have q6 : ¬ (n : Int) = 0 := by omega
                      have q7 : ((n : Int) == 0) = false := by simp; omega
                      have q8 : (m r : Int) % (n : Int) < (n : Int) := Int.emod_lt_of_pos _ (by omega)
                      have q9 : (o r : Int) % (n : Int) < (n : Int) := Int.emod_lt_of_pos _ (by omega)
                      have q10 : 0 ≤ (m r : Int) % (n : Int) := Int.emod_nonneg _ (by omega)
                      have q11 : 0 ≤ (o r : Int) % (n : Int) := Int.emod_nonneg _ (by omega)
                      have q12 : ((m r : Int) % (n : Int)).toNat = m r % n := by omega
                      have q13 : ((o r : Int) % (n : Int)).toNat = o r % n := by omega
                      go_upto_region 32 with fail
                      have pM2 := (World.cell?_of_block (a := ⟨P, m r % n, none⟩) (Deep.blk_alloc_lt wr (.cells #[.int .u8 (m r), .int .u8 (o r), .int .u8 (t r)] 52) P (by have := hcr.size; omega))).trans pM
                      have pO2 := (World.cell?_of_block (a := ⟨P, o r % n, none⟩) (Deep.blk_alloc_lt wr (.cells #[.int .u8 (m r), .int .u8 (o r), .int .u8 (t r)] 52) P (by have := hcr.size; omega))).trans pO
                      go_upto_region 35 with fail
                      have hcr1 : Chg w9 (wr.alloc (.cells #[.int .u8 (m r), .int .u8 (o r), .int .u8 (t r)] 52)) (Sw M w9) := hcr.alloc _
                      have hmi1 := hmi.grow ((Chg.refl wr (fun _ => False)).alloc (.cells #[.int .u8 (m r), .int .u8 (o r), .int .u8 (t r)] 52))
                      generalize (wr.alloc (.cells #[.int .u8 (m r), .int .u8 (o r), .int .u8 (t r)] 52)) = w1 at hcr1 hmi1 ⊢
                      rw [show ((t r : Int) % 8) = ((t r % 8 : Nat) : Int) by omega]
                      generalize t r % 8 = at8 at hat ⊢
                      clear pM pO pM2 pO2 s0 s1 s2 hcr hmi hPk hbk q6 q7 q8 q9 q10 q11 q12 q13 hm8 ho8 ht8
                      have kB : B < M := by have := hbex.lt; omega
                      have kO : O < M := by have := hbex.ltO; omega
                      have kN : ∀ k, (Value.slice an nN cn).ownBlock = some k → k < M := fun k hk => by have := hnm9.blk k hk; omega
                      have kI : ∀ k, (Value.slice ain nI cin).ownBlock = some k → k < M := fun k hk => by have := hinc9.blk k hk; omega
                      have nS9 : ∀ k, k < M → ¬ Sw M w9 k := fun k hk e => by have := e.1; omega
                      have hB1 := hbex.chg hcr1 (nS9 _ kB) (nS9 _ kO)
                      have hN1 := hnm9.sw kN hcr1
                      have hI1 := hinc9.sw kI hcr1
                      have rM1 := rM.chg hcr1 rM.notSw
                      have rO1 := rO.chg hcr1 rO.notSw
                      have b4 := hB1.card
                      go_cut [35] from 136 to 207 (fun v wc => ∃ g C k h, v = .slice (some ⟨g, 0, none⟩) k C ∧ k ≤ 1000 ∧ LRow wc g k h ∧ Sol (lst h k) (Res (keyOf gM lM gO lO)) ∧ Chg w1 wc (fun _ => False))
                      case first =>
                        cases ar with
                        | true =>
                          go_wp2_with fail
                          refine (c_model true on cd (.slice an nN cn) (.slice ain nI cin) nN sN nI sI gM lM lM fM gO lO lO fO w1 hN1 hI1 rM1 rO1 b2 bMl bOl).mono ?_
                          rintro e w2 ⟨g, C, k2, f2, rfl, hk2, _, hr2, hsol, hc2⟩
                          go_wp2
                          go_meet
                          exact ⟨g, C, k2, f2, rfl, hk2, hr2, by rw [hRes.out]; exact hsol, hc2⟩
                        | false =>
                          go_wp2_with fail
                          refine (c_model rb on cd (.slice an nN cn) (.slice ain nI cin) nN sN nI sI gM lM lM fM gO lO lO fO w1 hN1 hI1 rM1 rO1 b2 bMl bOl).mono ?_
                          rintro e w2 ⟨g, C, k2, f2, rfl, hk2, _, hr2, hsol, hc2⟩
                          go_wp2
                          go_meet
                          exact ⟨g, C, k2, f2, rfl, hk2, hr2, by rw [hRes.out]; exact hsol, hc2⟩
                      case rest =>
                        obtain ⟨gW, CW, kW, fW, rfl, hkW, rW, hsolW, hcW⟩ := hcut
                        clear b4
                        rename World => w2
                        have hcW' : Chg w1 w2 (Sw M w1) := hcW.mono (fun _ e => e.elim)
                        have hmi2 := hmi1.grow hcW
                        have hB2 := hB1.chg hcW (fun e => e) (fun e => e)
                        have hN2 := hN1.chg hcW (fun _ _ e => e)
                        have hI2 := hI1.chg hcW (fun _ _ e => e)
                        have rM2 := rM1.chg hcW (fun e => e)
                        have rO2 := rO1.chg hcW (fun e => e)
                        go_wp2_with fail
                        refine (c_pair at8 B O ar rb on cd (.slice an nN cn) (.slice ain nI cin) nN sN nI sI gM lM lM fM gO lO lO fO w2 hat hlm1 (by omega) hmi2 hB2 hN2 hI2 rM2 rO2 b2 bMl bOl kB kO kN kI hRes).mono ?_
                        rintro e w3 ⟨v1, rfl, hgood3, hc3, _, last3, ents3, lv3, mv3, hmi3, hlk3⟩
                        obtain ⟨g3, C3, n3, f3, rfl, hn3, r3, hsol3⟩ := hgood3
                        obtain ⟨hnn3, hff3⟩ := lst_inj (hsol3.uniq hsolW)
                        subst hnn3
                        have rW3 := rW.chg hc3 rW.notSw
                        go_wp2_with fail
                        refine (c_eq g3 C3 gW CW n3 f3 fW w3 hn3 r3 rW3 hff3).mono ?_
                        rintro e w4 ⟨rfl, q, rfl⟩
                        have hd4 : Chg w3 (w3.drewN q) (fun _ => False) := (Chg.refl w3 _).drewN q
                        generalize w3.drewN q = w4 at hd4 ⊢
                        have nS2 : ∀ k, k < M → ¬ Sw M w2 k := fun k hk e => by have := e.1; omega
                        have hmi4 := hmi3.grow hd4
                        have hB4 := (hB2.chg hc3 (nS2 _ kB) (nS2 _ kO)).chg hd4 (fun e => e) (fun e => e)
                        have hN4 := (hN2.sw kN hc3).chg hd4 (fun _ _ e => e)
                        have hI4 := (hI2.sw kI hc3).chg hd4 (fun _ _ e => e)
                        have rM4 := (rM2.chg hc3 rM2.notSw).chg hd4 (fun e => e)
                        have rO4 := (rO2.chg hc3 rO2.notSw).chg hd4 (fun e => e)
                        have rW4 := rW3.chg hd4 (fun e => e)
                        have hc94 : Chg w9 w4 (Sw M w9) := Sw.trans (Sw.trans (Sw.trans hcr1 hcW') hc3) (hd4.mono (fun _ e => e.elim))
                        clear hmi3 hB2 hN2 hI2 rM2 rO2 rW3 r3 rW hc3 hd4 hcW hcW' hmi2 hB1 hN1 hI1 rM1 rO1 hmi1 hcr1 hsol3
                        go_wp2_with fail
                        refine (c_pair at8 B O ar rb on cd (.slice an nN cn) (.slice ain nI cin) nN sN nI sI gM lM lM fM gO lO lO fO w4 hat hlm1 (by omega) hmi4 hB4 hN4 hI4 rM4 rO4 b2 bMl bOl kB kO kN kI hRes).mono ?_
                        rintro e w5 ⟨v2, rfl, hgood5, hc5, hsame, last5, ents5, lv5, mv5, hmi5, _⟩
                        have hv21 : 0 < lim → v2 = .slice (some ⟨g3, 0, none⟩) n3 C3 := fun h => hsame _ (hlk3 h)
                        obtain ⟨g5, C5, n5, f5, rfl, hn5, r5, hsol5⟩ := hgood5
                        obtain ⟨hnn5, hff5⟩ := lst_inj (hsol5.uniq hsolW)
                        subst hnn5
                        have rW5 := rW4.chg hc5 rW4.notSw
                        go_wp2_with fail
                        refine (c_eq g5 C5 gW CW n5 f5 fW w5 hn5 r5 rW5 hff5).mono ?_
                        rintro e w6 ⟨rfl, q', rfl⟩
                        have hmi6 := hmi5.grow ((Chg.refl w5 (fun _ => False)).drewN q')
                        have hc96 : Chg w9 (w5.drewN q') (Sw M w9) := (Sw.trans hc94 hc5).drewN q'
                        clear hmi5 hmi4 hB4 hN4 hI4 rM4 rO4 rW4 hc5 hsame hlk3 r5 rW5 hsol5 hsolW
                        generalize w5.drewN q' = w6 at hmi6 hc96 ⊢
                        by_cases hl0 : 0 < lim
                        · have hdl : decide (0 < lim) = true := by simpa using hl0
                          rcases Nat.eq_zero_or_pos n5 with hz | hpos
                          · have hdn : decide ((0 : Int) < (n5 : Int)) = false := by simp; omega
                            clear hv21
                            go_wp2
                            go_roundw
                            case rel => exact ⟨r + 1, _, _, _, _, by omega, by go_num, hmi6, hc96⟩
                            case measure => simp [intOf]; omega
                          · have hdn : decide ((0 : Int) < (n5 : Int)) = true := by simp; omega
                            have hdn2 : (0 : Int) < (n5 : Int) := by omega
                            have e21 := hv21 hl0
                            simp only [Value.slice.injEq, Option.some.injEq, Addr.mk.injEq, and_true, true_and] at e21
                            obtain ⟨rfl, rfl⟩ := e21
                            have hpe : ∀ w : World, (binOp .neq 56 (.pointer (some ⟨g5, 0, none⟩)) (.pointer (some ⟨g5, 0, none⟩))).run Yba.prog w = .ok (.bool false) w := fun w => neq56 _ w
                            clear hv21
                            go_wp2
                            go_quiet (fail)
                            go_wp2
                            go_roundw
                            case rel => exact ⟨r + 1, _, _, _, _, by omega, by go_num, hmi6.grow ((Chg.refl w6 _).drewN _), hc96.drewN _⟩
                            case measure => simp [intOf]; omega
                        · have hdl : decide (0 < lim) = false := by simpa using hl0
                          clear hv21
                          go_wp2
                          go_roundw
                          case rel => exact ⟨r + 1, _, _, _, _, by omega, by go_num, hmi6, hc96⟩
                          case measure => simp [intOf]; omega
                    · obtain rfl : r = nT := by omega
                      have hd : decide ((r : Int) < (r : Int)) = false := by simp
                      have hfin : Chg w wr (fun _ => False) := (hcw9.trans hcr (fun j e => .inr (by have := e.1; have := hcw9.size; omega)))
                      go_wp2
                      go_ret
                      exact ⟨rfl, hfin⟩
end Go.Proofs.Ybulkafyg
