/-
  The proof of Rows.LawS1584BHoldsMovedSaid.
-/
import Derived.Test.YbulkaftyBFrame
namespace Go.Proofs.Ybulkafty.lawS1584BHoldsMoved
open Go.ChangeShapes Go.WideShapes Go.ChangeAt Go.RowKit

set_option maxRecDepth 100000 in
set_option maxHeartbeats 1600000 in
theorem walk_some (b off n cap : Nat) (D E : Nat → Int) (p : Int) (w : World) (hn : n ≤ 1024) (hpos : 0 < n)
    (hD : ∀ i, i < n → w.cell? ⟨b, off + i * 2, none⟩ = some (.int .u64 (D i))) (hE : ∀ i, i < n → w.cell? ⟨b, off + i * 2 + 1, none⟩ = some (.int .u16 (E i)))
    (hE0 : ∀ i, i < n → 0 ≤ E i ∧ E i ≤ 65535) (hp : 0 ≤ p ∧ p ≤ 4294967295) :
    Calls Yba.prog 5 #[.slice (some ⟨b, off, none⟩) n cap, .int .u32 p] w fun e w' => e = .returned (.bool true) ∧ Below w.heap.size w w' := by
  have hz : ((n : Int) == 0) = false := by simp; omega
  have hd : decide ((1024 : Int) < (n : Int)) = false := by simp; omega
  have hb : b < w.heap.size := lt_of_cell (hD 0 hpos)
  have hset := b_setup b off n cap D E w hn hD hE hE0 hb
  obtain ⟨q, hq⟩ : ∃ q : Nat, p % (n : Int) = (q : Int) := ⟨(p % (n : Int)).toNat, by have := Int.emod_nonneg p (b := (n : Int)) (by omega); omega⟩
  have hqn : q < n := by have := Int.emod_lt_of_pos p (b := (n : Int)) (by omega); omega
  clear hD hE
  go_enter Yba.func5, Yba.ntmps5
  go_wp2_with fail
  refine hset.mono ?_
  rintro e w1 ⟨d, c, t, l, rfl, hl⟩
  have l1 := hl.list.cell1 (k := n - 1) (by omega)
  have hy : 0 ≤ E (n - 1) % 1024 ∧ E (n - 1) % 1024 < 1024 := by omega
  go_wp2_with fail
  refine (b_cut w w1 d c t l n q _ D _ hl hn hqn hy).mono ?_
  rintro e w2 ⟨rfl, hl2⟩
  have hbel := hl2.below
  have hA : (fun j : Nat => if j = (E (n - 1) % 1024).toNat then (q : Int) else (j : Int) + 5000) (E (n - 1) % 1024).toNat = q := by simp
  by_cases hqm : q < n - 1
  · have hh := b_holds_in w w2 d c t l n (n - 1) q (E (n - 1) % 1024) _ _ _ hl2 hn (by omega) hy hA hqm
    have he : ((fun j : Nat => if j = q then E (n - 1) % 1024 else (fun i => E i % 1024) j) q == E (n - 1) % 1024) = true := by simp
    rw [he] at hh
    clear hl hl2 hA l1 hset he
    have hdq : decide ((q : Int) < (n : Int) - 1) = true := by simp; omega
    go_wp2_with fail
    refine hh.mono ?_
    rintro e w3 ⟨rfl, rfl⟩
    go_wp2
    go_ret
    exact ⟨rfl, hbel⟩
  · have hh := b_holds_out w w2 d c t l n (n - 1) q (E (n - 1) % 1024) _ _ _ hl2 hn (by omega) hy hA hqm (by omega)
    clear hl hl2 hA l1 hset
    have hdq : decide ((q : Int) < (n : Int) - 1) = false := by simp; omega
    go_wp2_with fail
    refine hh.mono ?_
    rintro e w3 ⟨rfl, rfl⟩
    go_wp2
    go_ret
    exact ⟨rfl, hbel⟩

theorem walk (a : Option Addr) (len cap : Nat) (D E : Nat → Int) (p : Int) (w : World) (w0 : IsItems w a len cap D E) (w1 : (Lit.int .u32 p).wf = true) :
    Calls Yba.prog 5 #[.slice a len cap, .int .u32 p] w fun e w' => e = .returned (.bool true) ∧ Below w.heap.size w w' := by
  have hp := bounds_u32 w1
  rcases Nat.eq_zero_or_pos len with rfl | hpos
  · go_enter Yba.func5, Yba.ntmps5
    go_wp2
    go_ret
    exact ⟨rfl, Below.refl _ _⟩
  · by_cases hle : len ≤ 1024
    · rcases w0 with ⟨_, h0, _⟩ | ⟨⟨b, off, sp⟩, rfl, hlc, hmx, hc⟩
      · omega
      · have hsp : sp = none := by simpa [Addr.add] using World.cell?_spot (hc 0 hpos).1
        subst hsp
        exact walk_some b off len cap D E p w hle hpos (fun i hi => by rw [← add_plain]; exact (hc i hi).1) (fun i hi => by rw [Nat.add_assoc, ← add_plain]; exact (hc i hi).2.1) (fun i hi => (hc i hi).2.2) hp
    · have hz : ((len : Int) == 0) = false := by simp; omega
      have hd : decide ((1024 : Int) < (len : Int)) = true := by simp; omega
      go_enter Yba.func5, Yba.ntmps5
      go_wp2
      go_ret
      exact ⟨rfl, Below.refl _ _⟩

set_option maxRecDepth 100000 in
theorem lifted (os : Os) (started : os.Started) (H : Type) (enc : TypeId × Value → H) :
    ReturnsInHanded {} Yba.checked os 5 .any (Rows.lawS1584BHoldsMovedSpec.pre6 enc Yba.prog Yba.f5 Rows.lawS1584BHoldsMovedRow.domain false) (Rows.lawS1584BHoldsMovedSpec.post enc Yba.prog Yba.f5 false true false false) := by
  refine returnsInHanded_of_change (C := Yba.checked) own started (by kernel_rfl) Yba.func5
    (ChangeSpec.witness6 (enc := enc) (C := Yba.checked) false ⟨#[], #[.slice none 0 0, .int .u32 0], []⟩ 8 (by kernel_rfl) (by kernel_rfl) (by kernel_rfl) (by kernel_rfl)) ?_
  intro W base args ds gs before hval0 hW hcnd _
  have hval : ∀ (j : Nat) t v, Yba.f5.params[j]? = some t → args[j]? = some v → Value.okWide Yba.prog W .any base t v := hval0
  have hW' := hW
  obtain ⟨p, q, hA0, hV, rfl, hfz, hnd⟩ := hW
  have hA : DataW.TrodAll enc Yba.prog W 0 (fun _ => true) true Yba.f5.params.toList args.toList ds p := hA0
  rw [Yba.params5] at hA hval
  obtain ⟨v0, vs0, d0, ds0, p0, q0, hargs, rfl, rfl, h0, r0⟩ := trodAll_cons hA
  obtain ⟨v1, vs1, d1, ds1, p1, q1, rfl, rfl, rfl, h1, r1⟩ := trodAll_cons r0
  obtain ⟨rfl, rfl, rfl⟩ := trodAll_nil r1
  obtain rfl : args = #[v0, v1] := by cases args; simp_all
  obtain ⟨rfl, rfl⟩ := trodVars_none hV
  obtain ⟨a1, rfl, rfl, rfl, w1⟩ := open_int Yba.underlying31 (hval 1 31 v1 rfl rfl) h1
  obtain ⟨a0, len0, cap0, rfl⟩ := okWide_slice Yba.underlying40 (hval 0 40 v0 rfl rfl)
  have k0 := h0
  have lt0 : ∀ x ∈ p0, x.block < W.heap.size := by obtain ⟨m, hm⟩ := k0; exact DataW.trod_lt m _ _ _ hm
  obtain ⟨D, E, w0⟩ := open_items h0
  clear hA0 hval0
  refine (walk a0 len0 cap0 D E a1 W w0 w1).mono fun e W' ⟨he, bel⟩ => ?_
  subst he
  exact ⟨_, rfl, _, _, _, [], _, [], hW', trodAll_mk1 (shut_bool Yba.underlying4 _), (trodAll_cons_mk (Below.trod laidOut (by kernel_rfl) (of_decide_eq_true (by kernel_rfl)) k0 bel lt0) (trodAll_cons_mk (shut_int Yba.underlying31 w1) trodAll_mk0)), rfl, bel.frame _, fun h => by cases h⟩

theorem over : Rows.lawS1584BHoldsMovedRow.holds Yba.pinned (OpenSpec.ofChange Rows.lawS1584BHoldsMovedSpec) :=
  OpenClaim.holds_of_wide 5 Yba.f5 rfl rfl rfl rfl rfl rfl rfl ⟨rfl, rfl, rfl, rfl, rfl⟩ rfl rfl rfl rfl rfl (by kernel_rfl) Yba.func5 (by kernel_rfl)
    (of_decide_eq_true (by kernel_rfl)) (by unfold Func.isWrapper; first | (rw [if_pos (by decide +kernel)]; kernel_rfl) | (rw [if_neg (by decide +kernel)]; exact ⟨rfl, rfl⟩))
    (fun os started H enc _ => lifted os started H enc)

/-- THE STATEMENT -/
theorem proved : Rows.LawS1584BHoldsMovedSaid := over
end Go.Proofs.Ybulkafty.lawS1584BHoldsMoved
