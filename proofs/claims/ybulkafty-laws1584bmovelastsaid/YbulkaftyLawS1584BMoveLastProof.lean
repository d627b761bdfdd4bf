/-
  The proof of Rows.LawS1584BMoveLastSaid.
-/
import Derived.Test.YbulkaftyBCopy
import Derived.BigQuiet
import Derived.Deep.QuietTactic
namespace Go.Proofs.Ybulkafty.lawS1584BMoveLast
open Go.ChangeShapes Go.WideShapes Go.ChangeAt Go.RowKit

/-- what holds in both loops: what setup laid, as cut left it; the copy o; the variable last in block b -/
structure Inv (w wr : World) (d c t l o b n : Nat) (A D' E' D E : Nat → Int) (x y : Int) : Prop where
  laid : Laid w wr d c t l n A D' E'
  copy : ListIs wr o n D E
  last : wr.heap[b]? = some (.cells #[.int .u64 x, .int .u32 y] 34 (0, 0))

section
variable {w wr : World} {d c t l o b n : Nat} {A D' E' D E : Nat → Int} {x y : Int}
theorem Inv.drew (h : Inv w wr d c t l o b n A D' E' D E x y) : Inv w wr.drew d c t l o b n A D' E' D E x y := ⟨h.laid.drew, h.copy.drew, h.last⟩
theorem Inv.alloc (h : Inv w wr d c t l o b n A D' E' D E x y) (ob : Obj) : Inv w (wr.alloc ob) d c t l o b n A D' E' D E x y := by
  refine ⟨h.laid.alloc h.laid.below.size ob (lt_of_cell h.laid.top) (lt_of_cell h.laid.lev), h.copy.alloc ob, ?_⟩
  rw [Deep.blk_alloc_lt _ _ _ (Array.getElem?_eq_some_iff.1 h.last).1]
  exact h.last
theorem Inv.cell0 (h : Inv w wr d c t l o b n A D' E' D E x y) : wr.cell? ⟨b, 0, none⟩ = some (.int .u64 x) := by simp [World.cell?, h.last]
theorem Inv.cell1 (h : Inv w wr d c t l o b n A D' E' D E x y) : wr.cell? ⟨b, 1, none⟩ = some (.int .u32 y) := by simp [World.cell?, h.last]
end

set_option maxRecDepth 100000 in
set_option maxHeartbeats 1600000 in
theorem walk_some (b off n cap : Nat) (D E : Nat → Int) (p : Int) (w : World) (hn : n ≤ 1024) (hpos : 0 < n)
    (hD : ∀ i, i < n → w.cell? ⟨b, off + i * 2, none⟩ = some (.int .u64 (D i))) (hE : ∀ i, i < n → w.cell? ⟨b, off + i * 2 + 1, none⟩ = some (.int .u16 (E i)))
    (hE0 : ∀ i, i < n → 0 ≤ E i ∧ E i ≤ 65535) (hp : 0 ≤ p ∧ p ≤ 4294967295) :
    Calls Yba.prog 4 #[.slice (some ⟨b, off, none⟩) n cap, .int .u32 p] w fun e w' => e = .returned (.bool true) ∧ Below w.heap.size w w' := by
  have hz : ((n : Int) == 0) = false := by simp; omega
  have hd : decide ((1024 : Int) < (n : Int)) = false := by simp; omega
  have hb : b < w.heap.size := lt_of_cell (hD 0 hpos)
  have hset := b_setup b off n cap D E w hn hD hE hE0 hb
  obtain ⟨q, hq⟩ : ∃ q : Nat, p % (n : Int) = (q : Int) := ⟨(p % (n : Int)).toNat, by have := Int.emod_nonneg p (b := (n : Int)) (by omega); omega⟩
  have hqn : q < n := by have := Int.emod_lt_of_pos p (b := (n : Int)) (by omega); omega
  have hmk := mk30 n hn
  clear hD hE
  go_enter Yba.func4, Yba.ntmps4
  go_wp2_with fail
  refine hset.mono ?_
  rintro e w1 ⟨d, c, t, l, rfl, hl⟩
  obtain ⟨cs, hcopy, hcl⟩ := run_copy2 w1 l n _ _ hl.list hn
  have hl2 := hl.alloc hl.below.size (.cells cs 34) (lt_of_cell hl.top) (lt_of_cell hl.lev)
  have hy : 0 ≤ E (n - 1) % 1024 ∧ E (n - 1) % 1024 < 1024 := by omega
  have hcut := b_cut_kept w _ d c t l n q _ D _ hl2 hn hqn hy
  go_wp2_with fail
  refine hcut.mono ?_
  rintro e w3 ⟨rfl, hl3, hkept⟩
  have hol : w1.heap.size < (w1.alloc (.cells cs 34)).heap.size := by simp
  have hdl := hl.chunk.lt
  have hll := hl.list.lt
  have hc3 : ListIs w3 w1.heap.size n D (fun i => E i % 1024) := by
    obtain ⟨f, hr, hf⟩ := hcl
    exact ⟨f, hr.of_block (hkept _ hol (by omega) (by omega)), hf⟩
  obtain ⟨o, ho⟩ : ∃ o, o = w1.heap.size := ⟨_, rfl⟩
  rw [← ho] at hc3
  obtain ⟨x, hx⟩ : ∃ x, x = D (n - 1) := ⟨_, rfl⟩
  obtain ⟨y, hyv⟩ : ∃ y, y = E (n - 1) % 1024 := ⟨_, rfl⟩
  rw [← hx, ← hyv] at hl3
  rw [← hyv] at hy
  have o0 := hc3.cell0 (k := n - 1) (by omega)
  have o1 := hc3.cell1 (k := n - 1) (by omega)
  simp only [← hx, ← hyv] at o0 o1
  rw [← ho]
  have hinv : Inv w (w3.alloc (.cells #[.int .u64 x, .int .u32 y] 34)) d c t l o w3.heap.size n _ _ _ D (fun i => E i % 1024) x y :=
    ⟨hl3.alloc hl3.below.size _ (lt_of_cell hl3.top) (lt_of_cell hl3.lev), hc3.alloc _, Deep.blk_alloc_new _ _⟩
  clear hl hl2 hl3 hcut hset hcopy hcl hkept hc3 hol hdl hll hmk hE0 hx hyv ho
  go_wp2
  go_loopw [12] (fun i wr => ∃ k : Nat, k ≤ n - 1 ∧ i = .int .i64 k ∧ Inv w wr d c t l o w3.heap.size n (fun j => if j = y.toNat then q else j + 5000) (fun j => if j = q then x else D j) (fun j => if j = q then y else E j % 1024) D (fun i => E i % 1024) x y) (fun i _ => n - (intOf i).toNat)
  case atStart => exact ⟨0, Nat.zero_le _, rfl, hinv⟩
  case round =>
    obtain ⟨k, hk, rfl, hm⟩ := hrel
    by_cases hlt : k < n - 1
    · have u0 := hm.copy.cell0 (k := k) (by omega)
      have u1 := hm.copy.cell1 (k := k) (by omega)
      have r0 := hm.laid.list.cell0 (k := k) (by omega)
      have r1 := hm.laid.list.cell1 (k := k) (by omega)
      have c0 := hm.cell0
      have c1 := hm.cell1
      have hlen : l < wr.heap.size := hm.laid.list.lt
      have hlast : w3.heap.size < wr.heap.size := (Array.getElem?_eq_some_iff.1 hm.last).1
      by_cases hkq : k = q
      · subst hkq
        simp only [if_true] at r0 r1
        have hst := (hm.alloc (.cells #[.int .u64 x, .int .u32 y] 34)).drew
        clear hm hinv o0 o1
        go_wp2
        go_region
        all_goals
          go_wp2
          go_roundw
          case rel => exact ⟨k + 1, by omega, by go_num, hst⟩
          case measure => simp [intOf]; omega
      · have hkq' : ((k : Int) == (q : Int)) = false := by simp; omega
        simp only [if_neg hkq] at r0 r1
        have hst := (hm.alloc (.cells #[.int .u64 (D k), .int .u32 (E k % 1024)] 34)).drew
        clear hm hinv o0 o1
        go_wp2
        go_region
        all_goals
          go_wp2
          go_roundw
          case rel => exact ⟨k + 1, by omega, by go_num, hst⟩
          case measure => simp [intOf]; omega
    · have hbel := hm.laid.below
      have tt := hm.laid.top
      have tl := hm.laid.lev
      have c1 := hm.cell1
      have hch := hm.laid.chunk
      clear hm hinv o0 o1
      go_wp2
      go_loop [14] (fun i => ∃ j : Nat, j ≤ 1024 ∧ i = .int .i64 j) (fun i => 1024 - (intOf i).toNat)
      case atStart => exact ⟨0, Nat.zero_le _, rfl⟩
      case round =>
        obtain ⟨j, hj, rfl⟩ := hrel
        by_cases hjl : j < 1024
        · have cc := hch.cell (k := j) hjl
          by_cases hjy : j = y.toNat
          · have hjy' : ((j : Int) == y) = true := by simp; omega
            simp only [if_pos hjy] at cc
            clear hch hjy
            go_wp2
            go_round
            case rel => exact ⟨j + 1, by omega, by go_num⟩
            case measure => simp [intOf]; omega
          · have hjy' : ((j : Int) == y) = false := by simp; omega
            simp only [if_neg hjy] at cc
            clear hch hjy
            go_wp2
            go_round
            case rel => exact ⟨j + 1, by omega, by go_num⟩
            case measure => simp [intOf]; omega
        · have hj1 : j = 1024 := by omega
          subst hj1
          clear hch
          go_wp2
          go_ret
          exact ⟨rfl, hbel⟩

theorem walk (a : Option Addr) (len cap : Nat) (D E : Nat → Int) (p : Int) (w : World) (w0 : IsItems w a len cap D E) (w1 : (Lit.int .u32 p).wf = true) :
    Calls Yba.prog 4 #[.slice a len cap, .int .u32 p] w fun e w' => e = .returned (.bool true) ∧ Below w.heap.size w w' := by
  have hp := bounds_u32 w1
  rcases Nat.eq_zero_or_pos len with rfl | hpos
  · go_enter Yba.func4, Yba.ntmps4
    go_wp2
    go_ret
    exact ⟨rfl, Below.refl _ _⟩
  · by_cases hle : len ≤ 1024
    · rcases w0 with ⟨_, h0, _⟩ | ⟨⟨b, off, sp⟩, rfl, hlc, hmx, hc⟩
      · omega
      · have hsp : sp = none := by simpa [Addr.add] using World.cell?_spot (hc 0 hpos).1
        subst hsp
        exact walk_some b off len cap D E p w hle hpos (fun i hi => by rw [← add_plain]; exact (hc i hi).1) (fun i hi => by rw [Nat.add_assoc, ← add_plain]; exact (hc i hi).2.1) (fun i hi => (hc i hi).2.2) hp
    · have hz : ((len : Int) == 0) = false := by simp; omega
      have hd : decide ((1024 : Int) < (len : Int)) = true := by simp; omega
      go_enter Yba.func4, Yba.ntmps4
      go_wp2
      go_ret
      exact ⟨rfl, Below.refl _ _⟩

set_option maxRecDepth 100000 in
theorem lifted (os : Os) (started : os.Started) (H : Type) (enc : TypeId × Value → H) :
    ReturnsInHanded {} Yba.checked os 4 .any (Rows.lawS1584BMoveLastSpec.pre6 enc Yba.prog Yba.f4 Rows.lawS1584BMoveLastRow.domain false) (Rows.lawS1584BMoveLastSpec.post enc Yba.prog Yba.f4 false true false false) := by
  refine returnsInHanded_of_change (C := Yba.checked) own started (by kernel_rfl) Yba.func4
    (ChangeSpec.witness6 (enc := enc) (C := Yba.checked) false ⟨#[], #[.slice none 0 0, .int .u32 0], []⟩ 8 (by kernel_rfl) (by kernel_rfl) (by kernel_rfl) (by kernel_rfl)) ?_
  intro W base args ds gs before hval0 hW hcnd _
  have hval : ∀ (j : Nat) t v, Yba.f4.params[j]? = some t → args[j]? = some v → Value.okWide Yba.prog W .any base t v := hval0
  have hW' := hW
  obtain ⟨p, q, hA0, hV, rfl, hfz, hnd⟩ := hW
  have hA : DataW.TrodAll enc Yba.prog W 0 (fun _ => true) true Yba.f4.params.toList args.toList ds p := hA0
  rw [Yba.params4] at hA hval
  obtain ⟨v0, vs0, d0, ds0, p0, q0, hargs, rfl, rfl, h0, r0⟩ := trodAll_cons hA
  obtain ⟨v1, vs1, d1, ds1, p1, q1, rfl, rfl, rfl, h1, r1⟩ := trodAll_cons r0
  obtain ⟨rfl, rfl, rfl⟩ := trodAll_nil r1
  obtain rfl : args = #[v0, v1] := by cases args; simp_all
  obtain ⟨rfl, rfl⟩ := trodVars_none hV
  obtain ⟨a1, rfl, rfl, rfl, w1⟩ := open_int Yba.underlying31 (hval 1 31 v1 rfl rfl) h1
  obtain ⟨a0, len0, cap0, rfl⟩ := okWide_slice Yba.underlying40 (hval 0 40 v0 rfl rfl)
  have k0 := h0
  have lt0 : ∀ x ∈ p0, x.block < W.heap.size := by obtain ⟨m, hm⟩ := k0; exact DataW.trod_lt m _ _ _ hm
  obtain ⟨D, E, w0⟩ := open_items h0
  clear hA0 hval0
  refine (walk a0 len0 cap0 D E a1 W w0 w1).mono fun e W' ⟨he, bel⟩ => ?_
  subst he
  exact ⟨_, rfl, _, _, _, [], _, [], hW', trodAll_mk1 (shut_bool Yba.underlying4 _), (trodAll_cons_mk (Below.trod laidOut (by kernel_rfl) (of_decide_eq_true (by kernel_rfl)) k0 bel lt0) (trodAll_cons_mk (shut_int Yba.underlying31 w1) trodAll_mk0)), rfl, bel.frame _, fun h => by cases h⟩

theorem over : Rows.lawS1584BMoveLastRow.holds Yba.pinned (OpenSpec.ofChange Rows.lawS1584BMoveLastSpec) :=
  OpenClaim.holds_of_wide 4 Yba.f4 rfl rfl rfl rfl rfl rfl rfl ⟨rfl, rfl, rfl, rfl, rfl⟩ rfl rfl rfl rfl rfl (by kernel_rfl) Yba.func4 (by kernel_rfl)
    (of_decide_eq_true (by kernel_rfl)) (by unfold Func.isWrapper; first | (rw [if_pos (by decide +kernel)]; kernel_rfl) | (rw [if_neg (by decide +kernel)]; exact ⟨rfl, rfl⟩))
    (fun os started H enc _ => lifted os started H enc)

/-- THE STATEMENT -/
theorem proved : Rows.LawS1584BMoveLastSaid := over
end Go.Proofs.Ybulkafty.lawS1584BMoveLast
