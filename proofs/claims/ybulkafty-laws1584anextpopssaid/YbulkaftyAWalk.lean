/-
  The walk of LawS1584ANextPops where there are lists.
-/
import Derived.Test.YbulkaftyAPst
import Derived.Deep.RegionWith
import Derived.WalkSpells
import Derived.BigQuiet
import Derived.Deep.QuietTactic
namespace Go.Proofs.Ybulkafty.lawS1584ANextPops
open Go.ChangeShapes Go.WideShapes Go.ChangeAt Go.RowKit

/-- what the walk is told of the lists: cell r of the outer row holds a slice of L r numbers Z r -/
structure Rows2 (w : World) (b off N : Nat) (A : Nat → Option Addr) (B O L C : Nat → Nat) (Z : Nat → Nat → Int) : Prop where
  top : ∀ r, r < N → w.cell? ⟨b, off + r, none⟩ = some (.slice (A r) (L r) (C r))
  ad : ∀ r, r < N → 0 < L r → A r = some ⟨B r, O r, none⟩
  cell : ∀ r, r < N → ∀ j, j < L r → w.cell? ⟨B r, O r + j, none⟩ = some (.int .u32 (Z r j))
  lt : ∀ r, r < N → 0 < L r → B r < w.heap.size
  blt : 0 < N → b < w.heap.size

theorem pst_drewN {w wr : World} {X Y U h n kx ky ku c N : Nat} {G K s L : Nat → Nat} {Z : Nat → Nat → Int} (p : PSt w wr X Y U h n kx ky ku c N G K s L Z) (q : Nat) : PSt w (wr.drewN q) X Y U h n kx ky ku c N G K s L Z :=
  ⟨p.que.move (fun _ _ => rfl), p.idx, p.lens, p.ny, p.nu, p.nm, p.mx, p.apart, below_drewN p.below q, p.new, p.ls⟩
theorem int_eq {k : IntKind} {a b : Int} (h : a = b) : Value.int k a = .int k b := by rw [h]

theorem rem_ge (K : Nat → Nat) (h n c : Nat) (hn : 0 < n) : c ≤ rem K h n c := by
  cases n with
  | zero => omega
  | succ n => simp only [rem]; omega

theorem list_fill {w : World} {l n j k : Nat} {E : Nat → Int} (h : ListIs w l n (fun x => if x < j then k else 0) (fun x => if x < j then E x else 0)) (hj : j < n) :
    ListIs ((w.setCell ⟨l, j * 2, none⟩ (.int .u64 k)).setCell ⟨l, j * 2 + 1, none⟩ (.int .u32 (E j))) l n (fun x => if x < j + 1 then k else 0) (fun x => if x < j + 1 then E x else 0) := by
  refine (h.set hj k (E j)).congr fun x _ => ?_
  by_cases e : x = j
  · subst e; simp
  · simp only [if_neg e]
    by_cases g : x < j
    · rw [if_pos g, if_pos g, if_pos (by omega), if_pos (by omega)]; exact ⟨rfl, rfl⟩
    · rw [if_neg g, if_neg g, if_neg (by omega), if_neg (by omega)]; exact ⟨rfl, rfl⟩

theorem bld_start (w : World) (N : Nat) (L : Nat → Nat) (Z : Nat → Nat → Int) : Bld w (w.alloc (.cells #[.slice none 0 0, .int .i64 0] 28)) 0 N L Z (.slice none 0 0) (.slice none 0 0) (.slice none 0 0) [] :=
  ⟨Deep.blk_alloc_new _ _, World.ownsRow_nil _ _ _ _, World.ownsRow_nil _ _ _ _, World.ownsRow_nil _ _ _ _, by simp, fun g h => by simp [Value.ownBlock] at h, (Below.refl _ _).alloc (Nat.le_refl _) _, Nat.zero_le _, rfl⟩

set_option maxRecDepth 100000 in
set_option maxHeartbeats 4000000 in
theorem walk_some (b off N cap : Nat) (A : Nat → Option Addr) (B O L C : Nat → Nat) (Z : Nat → Nat → Int) (w : World) (hr : Rows2 w b off N A B O L C Z) (hN : N ≤ 256) (hpos : 0 < N) (pops : Int) (a : Nat) (hp : 0 ≤ pops ∧ pops ≤ 65535) (ha : a ≤ 1048576) :
    Calls Yba.prog 3 #[.slice (some ⟨b, off, none⟩) N cap, .int .u16 pops, .int .i64 a] w fun e w' => e = .returned (.bool true) ∧ Below w.heap.size w w' := by
  have hsn : ∀ (w : World) (a : Option Addr) (n c : Nat), (binOp .eql 30 (.slice a n c) (.slice none 0 0)).run Yba.prog w = .ok (.bool a.isNone) w := fun w a n c => Lib.run_eql_slice_nil w 30 34 a n c 0 0 Yba.underlying30
  have h1 : decide ((a : Int) < 0) = false := by simp
  have h2 : decide ((1048576 : Int) < (a : Int)) = false := by simp; omega
  have h3 : decide ((256 : Int) < (N : Int)) = false := by simp; omega
  go_enter Yba.func3, Yba.ntmps3
  go_wp2
  go_loop [40] (fun i => ∃ k : Nat, k ≤ N ∧ i = .int .i64 k ∧ ∀ j, j < k → L j ≤ 256) (fun i => N - (intOf i).toNat)
  case atStart => exact ⟨0, Nat.zero_le _, rfl, by omega⟩
  case round =>
    obtain ⟨k, hk, rfl, hL⟩ := hrel
    by_cases hlt : k < N
    · have c0 := hr.top k hlt
      by_cases h256 : L k ≤ 256
      · have hd : decide ((256 : Int) < (L k : Int)) = false := by simp; omega
        have hL' : Hid (∀ j, j < k + 1 → L j ≤ 256) := by
          intro j hj
          rcases Nat.lt_or_ge j k with h | h
          · exact hL j h
          · rw [show j = k by omega]; exact h256
        clear hL
        go_wp2
        go_round
        case rel => exact ⟨k + 1, by omega, by go_num, hL'.out⟩
        case measure => simp [intOf]; omega
      · have hd : decide ((256 : Int) < (L k : Int)) = true := by simp; omega
        clear hL
        go_wp2
        go_ret
        exact ⟨rfl, Below.refl _ _⟩
    · have hLN : Hid (∀ j, j < N → L j ≤ 256) := fun j hj => hL j (by omega)
      clear hL
      go_wp2
      go_loopw [10, 11, 12, 52] (fun vi vm t i wr => ∃ (k : Nat) (vl : Value) (GS : List (Nat × Nat)), k ≤ N ∧ i = .int .i64 k ∧ t = .int .i64 (sumTo L k : Nat) ∧ Bld w wr k N L Z vl vi vm GS) (fun _ _ _ i _ => N - (intOf i).toNat)
      case atStart => exact ⟨0, _, [], Nat.zero_le _, rfl, rfl, bld_start w N L Z⟩
      case round =>
        obtain ⟨k, vl, GS, hk, rfl, rfl, hbld⟩ := hrel
        by_cases hlt : k < N
        · have hb256 := hLN.out k hlt
          have hsum : sumTo L k ≤ 65536 := by have := sumTo_le L k (fun j hj => hLN.out j (by omega)); omega
          have c0 := (hbld.below.cell (p := ⟨b, off + k, none⟩) (hr.blt hpos)).trans (hr.top k hlt)
          rcases Nat.eq_zero_or_pos (L k) with h0 | hLp
          · have hm0 : ∀ w, (Instr.makeSlice 30 (.int .i64 0) (.int .i64 0)).run Yba.prog w = .ok (.slice (some ⟨w.heap.size, 0, none⟩) 0 0) (w.alloc (.cells (list0 0) 34)) := mk30 0 (by omega)
            have hfin := (hbld.still ((Chg.refl wr _).alloc (.cells (list0 0) 34))).empty h0
            rw [h0] at c0
            have h0' : Hid (L k = 0) := h0
            clear h0 hbld
            obtain ⟨ao, co, hac⟩ : ∃ ao co, A k = ao ∧ C k = co := ⟨_, _, rfl, rfl⟩
            rw [hac.1, hac.2] at c0
            clear hac
            go_wp2
            refine wp_loop_rounds 1 ?_
            rw [rounds_succ]
            go_wp2_with (go_at_call 8; refine (q_push_none _ _ _ _).mono ?_; rintro e w' ⟨rfl, rfl⟩)
            go_roundw
            case rel => exact ⟨k + 1, vl, GS, by omega, by go_num, by rw [sumTo, h0'.out]; rfl, hfin⟩
            case measure => simp [intOf]; omega
          · rename World => w2
            have hmk := mk30 (L k) (by omega)
            have hA := hr.ad k hlt hLp
            rw [hA] at c0
            clear hA
            have hcell : ∀ j, j < L k → w.cell? ⟨B k, O k + j, none⟩ = some (.int .u32 (Z k j)) := hr.cell k hlt
            have hBlt := hr.lt k hlt hLp
            have hchg0 := (Chg.refl w2 (fun _ => False)).alloc (.cells (list0 (L k)) 34)
            have hlist0 := list_new (L k) w2
            go_wp2
            go_loopw [62] (fun i w3 => ∃ j : Nat, j ≤ L k ∧ i = .int .i64 j ∧ ListIs w3 w2.heap.size (L k) (fun x => if x < j then k else 0) (fun x => if x < j then Z k x else 0) ∧ Chg w2 w3 (fun _ => False)) (fun i _ => L k - (intOf i).toNat)
            case atStart => exact ⟨0, Nat.zero_le _, rfl, by simpa using hlist0, hchg0⟩
            case round =>
              obtain ⟨j, hj, rfl, hli, hch⟩ := hrel
              by_cases hjl : j < L k
              · have z0 := (hch.below hbld.below hbld.below.size (fun _ e => e.elim)).cell (p := ⟨B k, O k + j, none⟩) hBlt
                have z1 := z0.trans (hcell j hjl)
                have y0 := hli.cell0 hjl
                have y1 := hli.cell1 hjl
                have g0 := hli.free (j * 2)
                have g1 := hli.free (j * 2 + 1)
                have hst := list_fill hli hjl
                have hch' := (hch.setCell (a := ⟨w2.heap.size, j * 2, none⟩) (.inr (Nat.le_refl _)) (.int .u64 k)).setCell (a := ⟨w2.heap.size, j * 2 + 1, none⟩) (.inr (Nat.le_refl _)) (.int .u32 (Z k j))
                clear z0 hli hch hlist0 hchg0 hcell hbld c0 hmk
                go_wp2
                go_roundw
                case rel => exact ⟨j + 1, by omega, by go_num, hst, hch'⟩
                case measure => simp [intOf]; omega
              · have hg : ListIs wr w2.heap.size (L k) (fun _ => k) (Z k) := hli.congr (fun x hx => by rw [if_pos (by omega), if_pos (by omega)]; exact ⟨rfl, rfl⟩)
                have hb1 := hbld.still hch
                have hlen := hbld.len
                have hpush := q_push w.heap.size w2.heap.size (L k) vl GS.length _ (sumTo L k) wr hb1.q hb1.lists hLp hb256 (by omega) hsum
                clear hli hch hlist0 hchg0 hcell hbld c0 hmk
                go_wp2_with fail
                refine hpush.mono ?_
                rintro e w4 ⟨rfl, x, cx, hq4, ho4, hc4⟩
                have hm1 := bld_push hb1 hg hLp hlt hq4 ho4 hc4
                clear hpush hb1 hg hq4 ho4 hc4
                obtain ⟨i0, hi, hz0, hz1, hz2⟩ := info_parts info3
                have hdp : decide ((0 : Int) < (L k : Int)) = true := by simp; omega
                go_wp2_with (at_builtin; refine wpList_append_lies _ rfl (.tmp 81) (.tmp 83) 29 rfl (w.heap.size + 1) 3 i0 (.int .i64 0) 1 8 Yba.underlying29 hi hz0 hz1 hz2 rfl (by decide) _ GS.length _ rfl (hm1.idx.alloc _) ⟨w4.heap.size, 0, none⟩ 1 1 [.int .i64 k] rfl rfl ?c1 ?c2 (by omega) (by unfold maxLen; omega) (by omega) ?c3 _ rfl ?_)
                case c1 => exact fun j u hu => World.news_of_block (Deep.blk_alloc_new _ _) j u (by simpa using hu)
                case c2 => intro u hu; simp at hu; subst hu; rfl
                case c3 => have := hm1.below.size; simp; omega
                intro y cy w5 ho5 hg5 hat5 _
                have hm2 := bld_idx hm1 _ ho5 hg5 hat5
                clear hm1 ho5 hg5 hat5
                go_wp2_with (at_builtin; refine wpList_append_lies _ rfl (.tmp 85) (.tmp 88) 29 rfl (w.heap.size + 1) 3 i0 (.int .i64 0) 1 8 Yba.underlying29 hi hz0 hz1 hz2 rfl (by decide) _ GS.length _ rfl (hm2.lens.alloc _) ⟨w5.heap.size, 0, none⟩ 1 1 [.int .i64 (L k)] rfl rfl ?d1 ?d2 (by omega) (by unfold maxLen; omega) (by omega) ?d3 _ rfl ?_)
                case d1 => exact fun j u hu => World.news_of_block (Deep.blk_alloc_new _ _) j u (by simpa using hu)
                case d2 => intro u hu; simp at hu; subst hu; rfl
                case d3 => have := hm2.below.size; simp; omega
                intro z cz w6 ho6 hg6 hat6 _
                have hfin := bld_lens hm2 _ ho6 hg6 hat6
                clear hm2 ho6 hg6 hat6
                go_wp2
                go_roundw
                case rel => exact ⟨k + 1, _, _, by omega, by go_num, by rw [sumTo]; go_num, hfin⟩
                case measure => simp [intOf]; omega
        · obtain rfl : N = k := by omega
          rename World => w2
          have hT65 : sumTo L N ≤ 65536 := by have := sumTo_le L N hLN.out; omega
          have hstart := fun h0 => pst_start hbld hN hLN.out h0
          have hq0 := hbld.q
          have hsum := hbld.sum
          have hbel := hbld.below
          clear hbld hlt hk
          generalize sumTo L N = T at *
          obtain ⟨p, hpp⟩ : ∃ p : Nat, pops % ((T : Int) + 1) = (p : Int) := ⟨(pops % ((T : Int) + 1)).toNat, by have := Int.emod_nonneg pops (b := (T : Int) + 1) (by omega); omega⟩
          have hpT : p ≤ T := by have := Int.emod_lt_of_pos pops (b := (T : Int) + 1) (by omega); omega
          have q1 := hq0.cell1
          rcases Nat.eq_zero_or_pos GS.length with hG | hG
          · have hGS : GS = [] := List.eq_nil_of_length_eq_zero hG
            subst hGS
            simp at hsum
            subst hsum
            obtain rfl : p = 0 := by omega
            clear hstart hG
            go_wp2
            refine wp_loop_rounds 1 ?_
            rw [rounds_succ]
            go_wp2_with (go_at_call 10; refine (q_next_nil _ _ _ _ hq0).mono ?_; rintro e w' ⟨rfl, rfl⟩)
            go_ret
            exact ⟨rfl, hbel⟩
          · obtain ⟨X, Y, U, kx, ky, ku, rfl, rfl, hps, hrem⟩ := hstart hG
            generalize (fun r => (GS.getD r (0, 0)).1) = G at *
            generalize hK : (fun r => L (GS.getD r (0, 0)).2) = K at *
            have hK0 : L (GS.getD 0 (0, 0)).2 = K 0 := by rw [← hK]
            rw [hK0] at hps hrem
            generalize (fun r => (GS.getD r (0, 0)).2) = sx at *
            generalize GS.length = m at *
            clear hsum hK hK0 hq0
            go_wp2
            rw [hpp]
            clear hpp
            go_loopw [10, 11, 12, 107] (fun vi vm t i wr => ∃ (j h n kx ky ku c : Nat) (ai au : Option Addr), j ≤ p ∧ i = .int .i64 j ∧ t = .int .i64 (rem K h n c : Nat) ∧ rem K h n c + j = T ∧ vi = .slice ai n ky ∧ vm = .slice au n ku ∧ (0 < n → ai = some ⟨Y, h, none⟩ ∧ au = some ⟨U, h, none⟩) ∧ PSt w wr X Y U h n kx ky ku c N G K sx L Z) (fun _ _ _ i _ => p - (intOf i).toNat)
            case atStart => exact ⟨0, 0, m, kx, ky, ku, K 0, _, _, Nat.zero_le _, rfl, by rw [hrem], by omega, rfl, rfl, fun _ => ⟨rfl, rfl⟩, hps⟩
            case round =>
              obtain ⟨j, h, n, kx, ky, ku, c, ai, au, hj, rfl, rfl, hrt, rfl, rfl, hai, hp⟩ := hrel
              by_cases hlt : j < p
              · have hn : 0 < n := by
                  rcases Nat.eq_zero_or_pos n with rfl | h
                  · simp [rem] at hrt; omega
                  · exact h
                obtain ⟨rfl, rfl⟩ := hai hn
                clear hai hps
                have hnm := hp.nm
                have hny := hp.ny
                have hnu := hp.nu
                obtain ⟨hmx, hmy, hmu⟩ := hp.mx
                unfold maxLen at hmy hmu
                obtain ⟨hc1, hcK⟩ := hp.que.first hn
                obtain ⟨hKL, hsN⟩ := hp.ls h (Nat.le_refl _) (by omega)
                have hKb := (hp.que.list h (Nat.le_refl _) (by omega)).2
                have hr0 : 0 < rem K h n c := (rem_pos K h n c (by omega)).2 hn
                rename World => w3
                rcases Nat.lt_or_ge 1 c with hcm | hcl
                · have hpop := q_pop_many w3 w.heap.size X h n kx c (rem K h n c : Nat) G K _ _ hp.que hn hnm hcm (by omega)
                  have hre := rem_many K h n c hn hcm
                  go_wp2_with fail
                  refine hpop.mono ?_
                  rintro e w4 ⟨xx, rfl, hu4, hc4⟩
                  have hp4 := pst_many hp hn hcm hu4 hc4
                  have i0 := hp.cell_i hc4 hn
                  obtain ⟨l0, lf⟩ := hp.cell_l hc4 hn
                  have hb4 : Below w.heap.size w w4 := hc4.below hp.below hp.below.size (by have := hp.new; rintro k (e | e) <;> omega)
                  have t0 := (hb4.cell (p := ⟨b, off + sx h, none⟩) (hr.blt hpos)).trans (hr.top (sx h) hsN)
                  rw [hr.ad (sx h) hsN (by omega)] at t0
                  have t1 := (hb4.cell (p := ⟨B (sx h), O (sx h) + (c - 1), none⟩) (hr.lt (sx h) hsN (by omega))).trans (hr.cell (sx h) hsN (c - 1) (by omega))
                  have HR : Hid (rem K h n c = rem K h n (c - 1) + 1) := hre
                  clear hu4 hc4 hpop hp hb4 hre
                  go_wp2
                  go_region
                  go_wp2
                  go_roundw
                  case rel => exact ⟨j + 1, h, n, kx, ky, ku, c - 1, _, _, by omega, by go_num, int_eq (by rw [HR.out]; omega), by have := HR.out; omega, rfl, rfl, fun _ => ⟨rfl, rfl⟩, hp4.drew⟩
                  case measure => simp [intOf]; omega
                · obtain rfl : c = 1 := by omega
                  have hpop := q_pop_last w3 w.heap.size X h n kx (rem K h n 1 : Nat) G K _ _ hp.que hn hnm hmx (by omega)
                  have hre := rem_last K h n hn
                  go_wp2_with fail
                  refine hpop.mono ?_
                  rintro e w4 ⟨xx, rfl, hu4, hc4⟩
                  have hp4 := pst_last hp hn hu4 hc4 (.int .i64 0)
                  have i0 := hp.cell_i hc4 hn
                  obtain ⟨l0, lf⟩ := hp.cell_l hc4 hn
                  have hb4 : Below w.heap.size w w4 := hc4.below hp.below hp.below.size (by have := hp.new; rintro k (e | e) <;> omega)
                  have t0 := (hb4.cell (p := ⟨b, off + sx h, none⟩) (hr.blt hpos)).trans (hr.top (sx h) hsN)
                  rw [hr.ad (sx h) hsN (by omega)] at t0
                  have t1 := (hb4.cell (p := ⟨B (sx h), O (sx h), none⟩) (hr.lt (sx h) hsN (by omega))).trans (hr.cell (sx h) hsN 0 (by omega))
                  have HR : Hid (rem K h n 1 = rem K (h + 1) (n - 1) (K (h + 1)) + 1) := hre
                  clear hu4 hc4 hpop hp hb4 hre
                  by_cases hky : ky = 1
                  · subst hky
                    obtain rfl : n = 1 := by omega
                    by_cases hku : ku = 1
                    · subst hku
                      go_wp2
                      go_region
                      go_wp2
                      go_roundw
                      case rel => exact ⟨j + 1, h + 1, 1 - 1, kx - 1, 1 - 1, 1 - 1, K (h + 1), _, _, by omega, by go_num, int_eq (by rw [HR.out]; omega), by have := HR.out; omega, rfl, rfl, fun h0 => absurd h0 (by omega), hp4.drew⟩
                      case measure => simp [intOf]; omega
                    · go_wp2
                      go_region
                      go_wp2
                      go_roundw
                      case rel => exact ⟨j + 1, h + 1, 1 - 1, kx - 1, 1 - 1, ku - 1, K (h + 1), _, _, by omega, by go_num, int_eq (by rw [HR.out]; omega), by have := HR.out; omega, rfl, rfl, fun h0 => absurd h0 (by omega), hp4.drew⟩
                      case measure => simp [intOf]; omega
                  · by_cases hku : ku = 1
                    · subst hku
                      obtain rfl : n = 1 := by omega
                      go_wp2
                      go_region
                      go_wp2
                      go_roundw
                      case rel => exact ⟨j + 1, h + 1, 1 - 1, kx - 1, ky - 1, 1 - 1, K (h + 1), _, _, by omega, by go_num, int_eq (by rw [HR.out]; omega), by have := HR.out; omega, rfl, rfl, fun h0 => absurd h0 (by omega), hp4.drew⟩
                      case measure => simp [intOf]; omega
                    · go_wp2
                      go_region
                      go_wp2
                      go_roundw
                      case rel => exact ⟨j + 1, h + 1, n - 1, kx - 1, ky - 1, ku - 1, K (h + 1), _, _, by omega, by go_num, int_eq (by rw [HR.out]; omega), by have := HR.out; omega, rfl, rfl, fun _ => ⟨rfl, rfl⟩, hp4.drew⟩
                      case measure => simp [intOf]; omega
              · obtain rfl : j = p := by omega
                rename World => w3
                rcases Nat.eq_zero_or_pos n with rfl | hn
                · obtain ⟨al, hq, _⟩ := hp.que.q
                  have hbel3 := hp.below
                  have hz : rem K h 0 c = 0 := rfl
                  rw [hz] at hq
                  have hq' : QIs w3 w.heap.size (.slice al 0 kx) 0 := hq
                  clear hp hq hai
                  go_wp2_with (go_at_call 10; refine (q_next_nil _ _ _ _ hq').mono ?_; rintro e w' ⟨rfl, rfl⟩)
                  go_ret
                  exact ⟨rfl, hbel3⟩
                · obtain ⟨rfl, rfl⟩ := hai hn
                  clear hai hps hlt
                  have hnm := hp.nm
                  have hny := hp.ny
                  have hnu := hp.nu
                  obtain ⟨hmx, hmy, hmu⟩ := hp.mx
                  unfold maxLen at hmy hmu
                  obtain ⟨hc1, hcK⟩ := hp.que.first hn
                  obtain ⟨hKL, hsN⟩ := hp.ls h (Nat.le_refl _) (by omega)
                  have hKb := (hp.que.list h (Nat.le_refl _) (by omega)).2
                  have hr0 : 0 < rem K h n c := (rem_pos K h n c (by omega)).2 hn
                  have hrz : (((rem K h n c : Nat) : Int) == 0) = false := by simp; omega
                  have hcr : c ≤ rem K h n c := rem_ge K h n c hn
                  have hnext := q_next w3 w.heap.size X h n kx c (rem K h n c : Nat) G K _ _ hp.que hn hnm (by omega) a ha
                  have i0 := hp.i0 hn
                  have l0 := hp.l0 hn
                  have hbel4 := hp.below
                  rcases Nat.eq_zero_or_pos a with rfl | ha0
                  · clear hp
                    go_wp2_with fail
                    refine hnext.mono ?_
                    rintro e w4 ⟨al, cp, rfl, hal, rfl⟩
                    rw [Nat.zero_min]
                    clear hnext hal
                    go_wp2
                    refine wp_loop_rounds 1 ?_
                    rw [rounds_succ]
                    go_wp2
                    refine wp_loop_rounds 1 ?_
                    rw [rounds_succ]
                    go_wp2
                    go_ret
                    exact ⟨rfl, hbel4⟩
                  · rcases Nat.lt_or_ge c a with hca | hac
                    · have HK : Hid (min a c = c) := by show _ = _; omega
                      go_wp2_with fail
                      refine hnext.mono ?_
                      rintro e w4 ⟨al, cp, rfl, hal, rfl⟩
                      rw [HK.out] at hal ⊢
                      rw [Nat.sub_self, Nat.zero_mul] at hal
                      obtain rfl := hal (by omega)
                      clear hnext hal HK
                      go_wp2
                      go_loopw [25] (fun i wr => ∃ j : Nat, j ≤ c ∧ i = .int .i64 j ∧ PSt w wr X Y U h n kx ky ku c N G K sx L Z) (fun i _ => c - (intOf i).toNat)
                      case atStart => exact ⟨0, Nat.zero_le _, rfl, hp⟩
                      case round =>
                        obtain ⟨j, hj, rfl, hq⟩ := hrel
                        by_cases hjl : j < c
                        · have hli := (hq.que.list h (Nat.le_refl _) (by omega)).1
                          have e0 : wr.cell? ⟨G h, j * 2, none⟩ = some (.int .u64 (sx h)) := by
                            have := hli.cell0 (k := j) (by omega)
                            exact this
                          have e1 : wr.cell? ⟨G h, j * 2 + 1, none⟩ = some (.int .u32 (Z (sx h) j)) := by
                            have := hli.cell1 (k := j) (by omega)
                            exact this
                          have i0 := hq.i0 hn
                          have l0 := hq.l0 hn
                          have t0 := (hq.below.cell (p := ⟨b, off + sx h, none⟩) (hr.blt hpos)).trans (hr.top (sx h) hsN)
                          rw [hr.ad (sx h) hsN (by omega)] at t0
                          have t1 := (hq.below.cell (p := ⟨B (sx h), O (sx h) + j, none⟩) (hr.lt (sx h) hsN (by omega))).trans (hr.cell (sx h) hsN j (by omega))
                          clear hli hp
                          go_wp2
                          go_quiet (fail)
                          go_wp2
                          go_roundw
                          case rel => exact ⟨j + 1, by omega, by go_num, pst_drewN hq _⟩
                          case measure => simp [intOf]; omega
                        · have hque := hq.que
                          have hli := (hq.que.list h (Nat.le_refl _) (by omega)).1
                          have hbel := hq.below
                          have hnew := hq.new
                          clear hq hp
                          go_wp2
                          go_loopw [26] (fun i wr => ∃ (jj : Nat) (tot : Int), jj ≤ c ∧ i = .int .i64 ((jj : Int) - 1) ∧ (0 < jj → Que wr w.heap.size X h n kx jj tot G K (fun r _ => sx r) (fun r => Z (sx r))) ∧ (jj : Int) ≤ tot ∧ tot ≤ 65536 ∧ ListIs wr (G h) (K h) (fun _ => sx h) (Z (sx h)) ∧ Below w.heap.size w wr) (fun i _ => (intOf i + 1).toNat)
                          case atStart => exact ⟨c, (rem K h n c : Nat), Nat.le_refl _, rfl, fun _ => hque, by omega, by omega, hli, hbel⟩
                          case round =>
                            obtain ⟨jj, tot, hjj, rfl, hu, ht1, ht2, hl, hb⟩ := hrel
                            rcases Nat.eq_zero_or_pos jj with rfl | hjp
                            · clear hu hl hque hli
                              go_wp2
                              go_ret
                              exact ⟨rfl, hb⟩
                            · obtain ⟨q, rfl⟩ : ∃ q, jj = q + 1 := ⟨jj - 1, by omega⟩
                              rw [show ((q + 1 : Nat) : Int) - 1 = (q : Int) by omega]
                              have hu' := hu hjp
                              have hgx := hu'.gx h (Nat.le_refl _) (by omega)
                              clear hu hque hli
                              rename World => w5
                              rcases Nat.lt_or_ge 1 (q + 1) with hcm | hcl
                              · have hpop := q_pop_many w5 w.heap.size X h n kx _ tot G K _ _ hu' hn hnm hcm (by omega)
                                go_wp2_with fail
                                refine hpop.mono ?_
                                rintro e w6 ⟨xx, rfl, hu6, hc6⟩
                                have hl6 : ListIs w6 (G h) (K h) (fun _ => sx h) (Z (sx h)) := hl.chg hc6 (by rintro (e | e); exact hgx.2 e; exact hgx.1 e)
                                have hb6 : Below w.heap.size w w6 := hc6.below hb hb.size (by rintro k (e | e) <;> omega)
                                rw [show q + 1 - 1 = q by omega] at hu6 ⊢
                                have e1 : w6.cell? ⟨G h, q * 2 + 1, none⟩ = some (.int .u32 (Z (sx h) q)) := by
                                  have := hl6.cell1 (k := q) (by omega)
                                  exact this
                                clear hpop hu' hc6 hl hb
                                go_wp2
                                go_roundw
                                case rel => exact ⟨q, tot - 1, by omega, rfl, fun _ => hu6, by omega, by omega, hl6, hb6⟩
                                case measure => simp [intOf]
                              · have hc1' : q + 1 = 1 := by omega
                                rw [hc1'] at hu'
                                obtain rfl : q = 0 := by omega
                                have hpop := q_pop_last w5 w.heap.size X h n kx tot G K _ _ hu' hn hnm hmx (by omega)
                                go_wp2_with fail
                                refine hpop.mono ?_
                                rintro e w6 ⟨xx, rfl, hu6, hc6⟩
                                have hl6 : ListIs w6 (G h) (K h) (fun _ => sx h) (Z (sx h)) := hl.chg hc6 (by rintro (e | e); exact hgx.2 e; exact hgx.1 e)
                                have hb6 : Below w.heap.size w w6 := hc6.below hb hb.size (by rintro k (e | e) <;> omega)
                                have e1 : w6.cell? ⟨G h, 1, none⟩ = some (.int .u32 (Z (sx h) 0)) := by
                                  have := hl6.cell1 (k := 0) (by omega)
                                  exact this
                                clear hpop hu' hc6 hl hb hu6 hc1'
                                go_wp2
                                go_roundw
                                case rel => exact ⟨0, tot - 1, by omega, rfl, fun h0 => absurd h0 (by omega), by omega, by omega, hl6, hb6⟩
                                case measure => simp [intOf]
                    · have HK : Hid (min a c = a) := by show _ = _; omega
                      go_wp2_with fail
                      refine hnext.mono ?_
                      rintro e w4 ⟨al, cp, rfl, hal, rfl⟩
                      rw [HK.out] at hal ⊢
                      obtain rfl := hal ha0
                      clear hnext hal HK
                      go_wp2
                      go_loopw [25] (fun i wr => ∃ j : Nat, j ≤ a ∧ i = .int .i64 j ∧ PSt w wr X Y U h n kx ky ku c N G K sx L Z) (fun i _ => a - (intOf i).toNat)
                      case atStart => exact ⟨0, Nat.zero_le _, rfl, hp⟩
                      case round =>
                        obtain ⟨j, hj, rfl, hq⟩ := hrel
                        by_cases hjl : j < a
                        · have hli := (hq.que.list h (Nat.le_refl _) (by omega)).1
                          have e0 : wr.cell? ⟨G h, (c - a) * 2 + j * 2, none⟩ = some (.int .u64 (sx h)) := by
                            have := hli.cell0 (k := c - a + j) (by omega)
                            rwa [show (c - a + j) * 2 = (c - a) * 2 + j * 2 by omega] at this
                          have e1 : wr.cell? ⟨G h, (c - a) * 2 + j * 2 + 1, none⟩ = some (.int .u32 (Z (sx h) (c - a + j))) := by
                            have := hli.cell1 (k := c - a + j) (by omega)
                            rwa [show (c - a + j) * 2 + 1 = (c - a) * 2 + j * 2 + 1 by omega] at this
                          have i0 := hq.i0 hn
                          have l0 := hq.l0 hn
                          have t0 := (hq.below.cell (p := ⟨b, off + sx h, none⟩) (hr.blt hpos)).trans (hr.top (sx h) hsN)
                          rw [hr.ad (sx h) hsN (by omega)] at t0
                          have t1 := (hq.below.cell (p := ⟨B (sx h), O (sx h) + (c - a + j), none⟩) (hr.lt (sx h) hsN (by omega))).trans (hr.cell (sx h) hsN (c - a + j) (by omega))
                          clear hli hp
                          go_wp2
                          go_quiet (fail)
                          go_wp2
                          go_roundw
                          case rel => exact ⟨j + 1, by omega, by go_num, pst_drewN hq _⟩
                          case measure => simp [intOf]; omega
                        · have hque := hq.que
                          have hli := (hq.que.list h (Nat.le_refl _) (by omega)).1
                          have hbel := hq.below
                          have hnew := hq.new
                          clear hq hp
                          go_wp2
                          go_loopw [26] (fun i wr => ∃ (jj : Nat) (tot : Int), jj ≤ a ∧ i = .int .i64 ((jj : Int) - 1) ∧ (0 < jj → Que wr w.heap.size X h n kx (c - a + jj) tot G K (fun r _ => sx r) (fun r => Z (sx r))) ∧ (jj : Int) ≤ tot ∧ tot ≤ 65536 ∧ ListIs wr (G h) (K h) (fun _ => sx h) (Z (sx h)) ∧ Below w.heap.size w wr) (fun i _ => (intOf i + 1).toNat)
                          case atStart => exact ⟨a, (rem K h n c : Nat), Nat.le_refl _, rfl, fun _ => by rw [show c - a + a = c by omega]; exact hque, by omega, by omega, hli, hbel⟩
                          case round =>
                            obtain ⟨jj, tot, hjj, rfl, hu, ht1, ht2, hl, hb⟩ := hrel
                            rcases Nat.eq_zero_or_pos jj with rfl | hjp
                            · clear hu hl hque hli
                              go_wp2
                              go_ret
                              exact ⟨rfl, hb⟩
                            · obtain ⟨q, rfl⟩ : ∃ q, jj = q + 1 := ⟨jj - 1, by omega⟩
                              rw [show ((q + 1 : Nat) : Int) - 1 = (q : Int) by omega]
                              have hu' := hu hjp
                              have hgx := hu'.gx h (Nat.le_refl _) (by omega)
                              clear hu hque hli
                              rename World => w5
                              rcases Nat.lt_or_ge 1 (c - a + (q + 1)) with hcm | hcl
                              · have hpop := q_pop_many w5 w.heap.size X h n kx _ tot G K _ _ hu' hn hnm hcm (by omega)
                                go_wp2_with fail
                                refine hpop.mono ?_
                                rintro e w6 ⟨xx, rfl, hu6, hc6⟩
                                have hl6 : ListIs w6 (G h) (K h) (fun _ => sx h) (Z (sx h)) := hl.chg hc6 (by rintro (e | e); exact hgx.2 e; exact hgx.1 e)
                                have hb6 : Below w.heap.size w w6 := hc6.below hb hb.size (by rintro k (e | e) <;> omega)
                                rw [show c - a + (q + 1) - 1 = c - a + q by omega] at hu6 ⊢
                                have e1 : w6.cell? ⟨G h, (c - a) * 2 + q * 2 + 1, none⟩ = some (.int .u32 (Z (sx h) (c - a + q))) := by
                                  have := hl6.cell1 (k := c - a + q) (by omega)
                                  rwa [show (c - a + q) * 2 + 1 = (c - a) * 2 + q * 2 + 1 by omega] at this
                                clear hpop hu' hc6 hl hb
                                go_wp2
                                go_roundw
                                case rel => exact ⟨q, tot - 1, by omega, rfl, fun _ => hu6, by omega, by omega, hl6, hb6⟩
                                case measure => simp [intOf]
                              · have hc1' : c - a + (q + 1) = 1 := by omega
                                rw [hc1'] at hu'
                                obtain rfl : q = 0 := by omega
                                have hpop := q_pop_last w5 w.heap.size X h n kx tot G K _ _ hu' hn hnm hmx (by omega)
                                go_wp2_with fail
                                refine hpop.mono ?_
                                rintro e w6 ⟨xx, rfl, hu6, hc6⟩
                                have hl6 : ListIs w6 (G h) (K h) (fun _ => sx h) (Z (sx h)) := hl.chg hc6 (by rintro (e | e); exact hgx.2 e; exact hgx.1 e)
                                have hb6 : Below w.heap.size w w6 := hc6.below hb hb.size (by rintro k (e | e) <;> omega)
                                have e1 : w6.cell? ⟨G h, (c - a) * 2 + 1, none⟩ = some (.int .u32 (Z (sx h) 0)) := by
                                  have := hl6.cell1 (k := 0) (by omega)
                                  rwa [show 0 * 2 + 1 = (c - a) * 2 + 1 by omega] at this
                                clear hpop hu' hc6 hl hb hu6 hc1'
                                go_wp2
                                go_roundw
                                case rel => exact ⟨0, tot - 1, by omega, rfl, fun h0 => absurd h0 (by omega), by omega, by omega, hl6, hb6⟩
                                case measure => simp [intOf]

end Go.Proofs.Ybulkafty.lawS1584ANextPops
