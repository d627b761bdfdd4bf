/-
  The proof of Rows.LawS1584ANextPopsSaid.
-/
import Derived.Test.YbulkaftyAWalk
import Derived.ShutString
import Derived.ChangeOld
import Derived.Below
import Derived.Deep.Matrix
namespace Go.Proofs.Ybulkafty.lawS1584ANextPops
open Go.ChangeShapes Go.WideShapes Go.ChangeAt Go.RowKit

theorem own : ownKnob Yba.prog.godebug = none := by kernel_rfl
theorem laidOut : laidOutB Yba.prog = true := by kernel_rfl

set_option maxRecDepth 100000 in
theorem walk_zero (ao : Option Addr) (cap : Nat) (w : World) (pops : Int) (a : Nat) (hp : 0 ≤ pops ∧ pops ≤ 65535) (ha : a ≤ 1048576) :
    Calls Yba.prog 3 #[.slice ao 0 cap, .int .u16 pops, .int .i64 a] w fun e w' => e = .returned (.bool true) ∧ Below w.heap.size w w' := by
  have hsn : ∀ (w : World) (a : Option Addr) (n c : Nat), (binOp .eql 30 (.slice a n c) (.slice none 0 0)).run Yba.prog w = .ok (.bool a.isNone) w := fun w a n c => Lib.run_eql_slice_nil w 30 34 a n c 0 0 Yba.underlying30
  have h1 : decide ((a : Int) < 0) = false := by simp
  have h2 : decide ((1048576 : Int) < (a : Int)) = false := by simp; omega
  have hq : QIs (w.alloc (.cells #[.slice none 0 0, .int .i64 0] 28)) w.heap.size (.slice none 0 0) 0 := Deep.blk_alloc_new _ _
  have hm1 : pops % 1 = 0 := by omega
  go_enter Yba.func3, Yba.ntmps3
  go_wp2
  refine wp_loop_rounds 1 ?_
  rw [rounds_succ]
  go_wp2
  refine wp_loop_rounds 1 ?_
  rw [rounds_succ]
  go_wp2
  refine wp_loop_rounds 1 ?_
  rw [rounds_succ]
  go_wp2_with (go_at_call 10; refine (q_next_nil _ _ _ _ hq).mono ?_; rintro e w' ⟨rfl, rfl⟩)
  go_ret
  exact ⟨rfl, (Below.refl _ _).alloc (Nat.le_refl _) _⟩

/-- what the frame tells of the lists -/
def IsLists (w : World) (ao : Option Addr) (N : Nat) : Prop := N = 0 ∨ ∃ b off A B O L C Z, ao = some ⟨b, off, none⟩ ∧ Rows2 w b off N A B O L C Z

set_option maxRecDepth 100000 in
theorem walk (ao : Option Addr) (N cap : Nat) (w : World) (pops a : Int) (h0 : IsLists w ao N) (w1 : (Lit.int .u16 pops).wf = true) :
    Calls Yba.prog 3 #[.slice ao N cap, .int .u16 pops, .int .i64 a] w fun e w' => e = .returned (.bool true) ∧ Below w.heap.size w w' := by
  have hp := bounds_u16 w1
  by_cases h1 : a < 0
  · have hd : decide (a < 0) = true := by simpa using h1
    go_enter Yba.func3, Yba.ntmps3
    go_wp2
    go_ret
    exact ⟨rfl, Below.refl _ _⟩
  · have hd : decide (a < 0) = false := by simpa using h1
    by_cases h2 : (1048576 : Int) < a
    · have hd2 : decide ((1048576 : Int) < a) = true := by simpa using h2
      go_enter Yba.func3, Yba.ntmps3
      go_wp2
      go_ret
      exact ⟨rfl, Below.refl _ _⟩
    · have hd2 : decide ((1048576 : Int) < a) = false := by simpa using h2
      by_cases h3 : N ≤ 256
      · obtain ⟨an, rfl⟩ := Int.eq_ofNat_of_zero_le (show 0 ≤ a by omega)
        rcases Nat.eq_zero_or_pos N with rfl | hpos
        · exact walk_zero ao cap w pops an hp (by omega)
        · rcases h0 with h0 | ⟨b, off, A, B, O, L, C, Z, rfl, hr⟩
          · omega
          · exact walk_some b off N cap A B O L C Z w hr h3 hpos pops an hp (by omega)
      · have hd3 : decide ((256 : Int) < (N : Int)) = true := by simp; omega
        go_enter Yba.func3, Yba.ntmps3
        go_wp2
        go_ret
        exact ⟨rfl, Below.refl _ _⟩

theorem lt_of_cell {w : World} {a : Addr} {v : Value} (h : w.cell? a = some v) : a.block < w.heap.size := by
  unfold World.cell? at h
  split at h
  · rename_i hb
    exact (Array.getElem?_eq_some_iff.1 hb).1
  · cases h

theorem open_lists {H : Type} {enc : TypeId × Value → H} {W : World} {a : Option Addr} {len cap : Nat} {d : DataW H} {ps : List MemPlace}
    (h : DataW.Trod enc Yba.prog W 0 (fun _ => true) true 22 (.slice a len cap) d ps) : IsLists W a len := by
  obtain ⟨fuel, hf⟩ := h
  rcases Deep.open_int_rows Yba.underlying22 Yba.underlying24 Yba.underlying31 (by kernel_rfl) (by kernel_rfl) hf with ⟨hcs, _⟩ | ⟨⟨b, off, sp⟩, l, c, A, L, C, Z, hcs, _, hl, hm, _, hx⟩
  · simp [Value.cells] at hcs
    exact .inl hcs.2.1
  · simp [Value.cells] at hcs
    obtain ⟨rfl, rfl, rfl⟩ := hcs
    rcases Nat.eq_zero_or_pos len with h0 | hpos
    · exact .inl h0
    right
    have hsp : sp = none := by simpa [Addr.add] using World.cell?_spot (hx 0 (by omega)).1
    subst hsp
    have hA : ∀ r, r < len → 0 < L r → ∃ a', A r = some a' ∧ a'.spot = none ∧ ∀ j, j < L r → W.cell? ⟨a'.block, a'.off + j, none⟩ = some (.int .u32 ((Z r).getD j 0)) := by
      intro r hr hL
      obtain ⟨_, h2, _, _, _, h6, h7⟩ := hx r (by omega)
      cases hAr : A r with
      | none => have := h6 hAr; omega
      | some a' =>
        obtain ⟨_, hc⟩ := h7 a' hAr
        obtain ⟨b', o', sp'⟩ := a'
        have hs : sp' = none := by simpa [Addr.add] using World.cell?_spot (hc 0 (by omega))
        subst hs
        exact ⟨_, rfl, rfl, fun j hj => by rw [← add_plain]; exact hc j (by omega)⟩
    refine ⟨b, off, A, fun r => ((A r).map (·.block)).getD 0, fun r => ((A r).map (·.off)).getD 0, L, C, fun r j => (Z r).getD j 0, rfl, ⟨fun r hr => ?_, fun r hr hL => ?_, fun r hr j hj => ?_, fun r hr hL => ?_, fun _ => ?_⟩⟩
    · rw [← add_plain]; exact (hx r (by omega)).1
    · obtain ⟨⟨b', o', sp'⟩, e, hs, _⟩ := hA r hr hL
      simp only at hs
      subst hs
      simp [e]
    · obtain ⟨a', e, _, hc⟩ := hA r hr (by omega)
      simp only [e, Option.map_some, Option.getD_some]
      exact hc j hj
    · obtain ⟨a', e, _, hc⟩ := hA r hr hL
      simp only [e, Option.map_some, Option.getD_some]
      exact lt_of_cell (a := ⟨a'.block, a'.off + 0, none⟩) (hc 0 hL)
    · exact lt_of_cell (a := ⟨b, off + 0, none⟩) (by rw [← add_plain]; exact (hx 0 (by omega)).1)

set_option maxRecDepth 100000 in
theorem lifted (os : Os) (started : os.Started) (H : Type) (enc : TypeId × Value → H) :
    ReturnsInHanded {} Yba.checked os 3 .any (Rows.lawS1584ANextPopsSpec.pre6 enc Yba.prog Yba.f3 Rows.lawS1584ANextPopsRow.domain false) (Rows.lawS1584ANextPopsSpec.post enc Yba.prog Yba.f3 false true false false) := by
  refine returnsInHanded_of_change (C := Yba.checked) own started (by kernel_rfl) Yba.func3
    (ChangeSpec.witness6 (enc := enc) (C := Yba.checked) false ⟨#[], #[.slice none 0 0, .int .u16 0, .int .i64 0], []⟩ 8 (by kernel_rfl) (by kernel_rfl) (by kernel_rfl) (by kernel_rfl)) ?_
  intro W base args ds gs before hval0 hW hcnd _
  have hval : ∀ (j : Nat) t v, Yba.f3.params[j]? = some t → args[j]? = some v → Value.okWide Yba.prog W .any base t v := hval0
  have hW' := hW
  obtain ⟨p, q, hA0, hV, rfl, hfz, hnd⟩ := hW
  have hA : DataW.TrodAll enc Yba.prog W 0 (fun _ => true) true Yba.f3.params.toList args.toList ds p := hA0
  rw [Yba.params3] at hA hval
  obtain ⟨v0, vs0, d0, ds0, p0, q0, hargs, rfl, rfl, h0, r0⟩ := trodAll_cons hA
  obtain ⟨v1, vs1, d1, ds1, p1, q1, rfl, rfl, rfl, h1, r1⟩ := trodAll_cons r0
  obtain ⟨v2, vs2, d2, ds2, p2, q2, rfl, rfl, rfl, h2, r2⟩ := trodAll_cons r1
  obtain ⟨rfl, rfl, rfl⟩ := trodAll_nil r2
  obtain rfl : args = #[v0, v1, v2] := by cases args; simp_all
  obtain ⟨rfl, rfl⟩ := trodVars_none hV
  obtain ⟨a1, rfl, rfl, rfl, w1⟩ := open_int Yba.underlying23 (hval 1 23 v1 rfl rfl) h1
  obtain ⟨a2, rfl, rfl, rfl, w2⟩ := open_int Yba.underlying3 (hval 2 3 v2 rfl rfl) h2
  obtain ⟨a0, len0, cap0, rfl⟩ := okWide_slice Yba.underlying22 (hval 0 22 v0 rfl rfl)
  have k0 := h0
  have lt0 : ∀ x ∈ p0, x.block < W.heap.size := by obtain ⟨m, hm⟩ := k0; exact DataW.trod_lt m _ _ _ hm
  have w0 := open_lists h0
  clear hA0 hval0
  refine (walk a0 len0 cap0 W a1 a2 w0 w1).mono fun e W' ⟨he, bel⟩ => ?_
  subst he
  exact ⟨_, rfl, _, _, _, [], _, [], hW', trodAll_mk1 (shut_bool Yba.underlying4 _), (trodAll_cons_mk (Below.trod laidOut (by kernel_rfl) (of_decide_eq_true (by kernel_rfl)) k0 bel lt0) (trodAll_cons_mk (shut_int Yba.underlying23 w1) (trodAll_cons_mk (shut_int Yba.underlying3 w2) trodAll_mk0))), rfl, bel.frame _, fun h => by cases h⟩

theorem over : Rows.lawS1584ANextPopsRow.holds Yba.pinned (OpenSpec.ofChange Rows.lawS1584ANextPopsSpec) :=
  OpenClaim.holds_of_wide 3 Yba.f3 rfl rfl rfl rfl rfl rfl rfl ⟨rfl, rfl, rfl, rfl, rfl⟩ rfl rfl rfl rfl rfl (by kernel_rfl) Yba.func3 (by kernel_rfl)
    (of_decide_eq_true (by kernel_rfl)) (by unfold Func.isWrapper; first | (rw [if_pos (by decide +kernel)]; kernel_rfl) | (rw [if_neg (by decide +kernel)]; exact ⟨rfl, rfl⟩))
    (fun os started H enc _ => lifted os started H enc)

/-- THE STATEMENT -/
theorem proved : Rows.LawS1584ANextPopsSaid := over
end Go.Proofs.Ybulkafty.lawS1584ANextPops
