/-
  The proof of Rows.LawS1592AScriptSaid.
-/
import Derived.Test.YbulkafygLaw
import Derived.ShutString
import Derived.ChangeOld
import Derived.Below
import Derived.Deep.Strs
import Derived.Deep.SlicePairs
namespace Go.Proofs.Ybulkafyg.lawS1592AScript
open Go.ChangeShapes Go.WideShapes Go.ChangeAt Go.RowKit

theorem own : ownKnob Yba.prog.godebug = none := by kernel_rfl
theorem laidOut : laidOutB Yba.prog = true := by kernel_rfl

theorem lt_of_cell {w : World} {a : Addr} {v : Value} (h : w.cell? a = some v) : a.block < w.heap.size := by
  unfold World.cell? at h
  split at h
  · rename_i hb
    exact (Array.getElem?_eq_some_iff.1 hb).1
  · cases h
theorem addP (b off i : Nat) : (⟨b, off, none⟩ : Addr).add i = ⟨b, off + i, none⟩ := by unfold Addr.add; split <;> simp_all

section
variable {H : Type} {enc : TypeId × Value → H} {W : World} {a : Option Addr} {len cap : Nat} {d : DataW H} {ps : List MemPlace}
theorem open_src (h : DataW.Trod enc Yba.prog W 0 (fun _ => true) true 22 (.slice a len cap) d ps) : (∃ s, SrcS W a len s) ∧ (a = none → len = 0 ∧ cap = 0) := by
  obtain ⟨fuel, hf⟩ := h
  rcases Deep.open_strs Yba.underlying22 Yba.underlying9 (by kernel_rfl) hf with ⟨hcs, _⟩ | ⟨⟨b, off, sp⟩, l, c, m, Sx, hcs, _, hl, hm, hmm, _, hx⟩
  · simp [Value.cells] at hcs
    exact ⟨⟨fun _ => ⟨#[]⟩, .inl hcs.2.1⟩, fun _ => ⟨hcs.2.1, hcs.2.2⟩⟩
  · simp [Value.cells] at hcs
    obtain ⟨rfl, rfl, rfl⟩ := hcs
    simp only [if_true] at hmm
    subst hmm
    refine ⟨⟨Sx, ?_⟩, fun h => by cases h⟩
    rcases Nat.eq_zero_or_pos len with h0 | hpos
    · exact .inl h0
    have hsp : sp = none := by simpa [Addr.add] using World.cell?_spot (hx 0 (by omega)).1
    subst hsp
    exact .inr ⟨b, off, rfl, lt_of_cell (hx 0 (by omega)).1, fun i hi => by rw [← addP]; exact (hx i (by omega)).1⟩

theorem open_row {w : World} {fuel : Nat} {v : Value} {x : DataW H × List MemPlace} (hf : DataW.trod enc Yba.prog w 0 (fun _ => true) true fuel 25 [v] = some x) : ∃ q : Option Addr × Nat × Nat × (Nat → Lab), v = .slice q.1 q.2.1 q.2.2.1 ∧ SrcL w q.1 q.2.1 q.2.2.2 := by
  rcases Deep.open_slice_pairs Yba.underlying25 Yba.underlying60 (by kernel_rfl) rfl rfl (by kernel_rfl) (by kernel_rfl) hf with ⟨hcs, _⟩ | ⟨⟨b, off, sp⟩, l, c, m, n, V0, V1, D0, D1, P0, P1, hcs, _, hl, hm, hmm, _, hx⟩
  · exact ⟨(none, 0, 0, fun _ => (⟨#[]⟩, ⟨#[]⟩)), by simpa using hcs, .inl rfl⟩
  · simp only [if_true] at hmm
    subst hmm
    have each : ∀ i, i < m → ∃ y : Lab, V0 i = .string y.1 ∧ V1 i = .string y.2 := fun i hi => by
      obtain ⟨_, _, h0, h1⟩ := hx i hi
      obtain ⟨s0, e0, _⟩ := DataW.trod_string Yba.underlying9 h0
      obtain ⟨s1, e1, _⟩ := DataW.trod_string Yba.underlying9 h1
      exact ⟨(s0, s1), by simpa using e0, by simpa using e1⟩
    obtain ⟨Y, hY⟩ := Deep.choose_lt each
    refine ⟨(some ⟨b, off, sp⟩, l, m, Y), by simpa using hcs, ?_⟩
    rcases Nat.eq_zero_or_pos l with h0 | hpos
    · exact .inl h0
    have hsp : sp = none := by simpa [Addr.add] using World.cell?_spot (hx 0 (by omega)).1
    subst hsp
    refine .inr ⟨b, off, rfl, lt_of_cell (hx 0 (by omega)).1, fun i hi => ?_⟩
    have hi' : i < l := hi
    have e0 := (hx i (by omega)).1
    have e1 := (hx i (by omega)).2.1
    rw [addP, (hY i (by omega)).1] at e0
    rw [addP, (hY i (by omega)).2] at e1
    exact ⟨e0, by rw [Nat.add_assoc]; exact e1⟩

theorem open_sets (h : DataW.Trod enc Yba.prog W 0 (fun _ => true) true 23 (.slice a len cap) d ps) : SetsIn W a len := by
  obtain ⟨fuel, hf⟩ := h
  rcases Deep.open_slice1 Yba.underlying23 (by kernel_rfl) hf with ⟨hcs, _⟩ | ⟨⟨b, off, sp⟩, l, c, m, n, V, D, Pl, hcs, _, hl, hm, hmm, _, hx⟩
  · simp [Value.cells] at hcs
    exact .inl hcs.2.1
  · simp [Value.cells] at hcs
    obtain ⟨rfl, rfl, rfl⟩ := hcs
    simp only [if_true] at hmm
    subst hmm
    rcases Nat.eq_zero_or_pos len with h0 | hpos
    · exact .inl h0
    have hsp : sp = none := by simpa [Addr.add] using World.cell?_spot (hx 0 (by omega)).1
    subst hsp
    have each : ∀ r, r < m → ∃ q : Option Addr × Nat × Nat × (Nat → Lab), V r = .slice q.1 q.2.1 q.2.2.1 ∧ SrcL W q.1 q.2.1 q.2.2.2 := fun r hr => open_row (hx r hr).2
    obtain ⟨Q, hQ⟩ := Deep.choose_lt each
    refine .inr ⟨b, off, fun r => (Q r).1, fun r => (Q r).2.1, fun r => (Q r).2.2.1, fun r => (Q r).2.2.2, rfl, lt_of_cell (hx 0 (by omega)).1, fun r hr => ⟨?_, (hQ r (by omega)).2⟩⟩
    have e := (hx r (by omega)).1
    rw [addP, (hQ r (by omega)).1] at e
    exact e

set_option maxRecDepth 100000 in
theorem open_steps (h : DataW.Trod enc Yba.prog W 0 (fun _ => true) true 24 (.slice a len cap) d ps) : StepsIn W a len := by
  obtain ⟨fuel, hf⟩ := h
  have c52 : Yba.prog.cellsOf 52 = 3 := by kernel_rfl
  have c5 : Yba.prog.cellsOf 5 = 1 := by kernel_rfl
  rcases Deep.open_slice Yba.underlying24 hf with ⟨hcs, _⟩ | ⟨⟨b, off, sp⟩, l, c, m, n, D, Pl, hcs, _, hl, hm, hmm, _, hx⟩
  · simp [Value.cells] at hcs
    exact .inl hcs.2.1
  · simp [Value.cells] at hcs
    obtain ⟨rfl, rfl, rfl⟩ := hcs
    simp only [if_true] at hmm
    subst hmm
    rcases Nat.eq_zero_or_pos len with h0 | hpos
    · exact .inl h0
    have each : ∀ r, r < m → ∃ q : Nat × Nat × Nat, W.cell? ((⟨b, off, sp⟩ : Addr).add (r * 3)) = some (.int .u8 q.1) ∧ W.cell? (((⟨b, off, sp⟩ : Addr).add (r * 3)).add 1) = some (.int .u8 q.2.1) ∧ W.cell? (((⟨b, off, sp⟩ : Addr).add (r * 3)).add 2) = some (.int .u8 q.2.2) ∧ q.1 < 256 ∧ q.2.1 < 256 ∧ q.2.2 < 256 := fun r hr => by
      obtain ⟨cs, h1, h2⟩ := hx r hr
      rw [c52] at h1
      obtain ⟨_, hlen, hcell⟩ := World.cells?_some h1
      obtain ⟨y0, y1, y2, k, _, _, t0, t1, t2⟩ := Deep.trod_struct3 Yba.underlying52 h2
      match cs, hlen with
      | [u0, u1, u2], _ =>
        simp [c5] at t0 t1 t2
        obtain ⟨z0, e0, _, w0⟩ := DataW.trod_int Yba.underlying5 t0
        obtain ⟨z1, e1, _, w1⟩ := DataW.trod_int Yba.underlying5 t1
        obtain ⟨z2, e2, _, w2⟩ := DataW.trod_int Yba.underlying5 t2
        have q0 := bounds_u8 w0
        have q1 := bounds_u8 w1
        have q2 := bounds_u8 w2
        obtain ⟨n0, rfl⟩ := Int.eq_ofNat_of_zero_le q0.1
        obtain ⟨n1, rfl⟩ := Int.eq_ofNat_of_zero_le q1.1
        obtain ⟨n2, rfl⟩ := Int.eq_ofNat_of_zero_le q2.1
        simp at e0 e1 e2
        subst e0 e1 e2
        have g0 := hcell 0 (by omega)
        have g1 := hcell 1 (by omega)
        have g2 := hcell 2 (by omega)
        simp at g0 g1 g2
        refine ⟨(n0, n1, n2), ?_, g1, g2, by dsimp only; omega, by dsimp only; omega, by dsimp only; omega⟩
        rw [← g0]; congr 1
    obtain ⟨Q, hQ⟩ := Deep.choose_lt each
    have hsp : sp = none := by simpa [Addr.add] using World.cell?_spot (hQ 0 (by omega)).1
    subst hsp
    refine .inr ⟨b, off, fun r => (Q r).1, fun r => (Q r).2.1, fun r => (Q r).2.2, rfl, lt_of_cell (hQ 0 (by omega)).1, fun r hr => ?_⟩
    obtain ⟨e0, e1, e2, e3⟩ := hQ r (by omega)
    rw [addP] at e0
    rw [addP, addP] at e1 e2
    exact ⟨e0, e1, e2, e3⟩
end

set_option maxRecDepth 100000 in
theorem lifted (os : Os) (started : os.Started) (H : Type) (enc : TypeId × Value → H) :
    ReturnsInHanded {} Yba.checked os 3 .any (Rows.lawS1592AScriptSpec.pre6 enc Yba.prog Yba.f3 Rows.lawS1592AScriptRow.domain false) (Rows.lawS1592AScriptSpec.post enc Yba.prog Yba.f3 false true false false) := by
  refine returnsInHanded_of_change (C := Yba.checked) own started (by kernel_rfl) Yba.func3
    (ChangeSpec.witness6 (enc := enc) (C := Yba.checked) false ⟨#[], #[.bool false, .bool false, .int .u8 0, .bool false, .slice none 0 0, .slice none 0 0, .slice none 0 0, .slice none 0 0, .int .u8 0], []⟩ 8 (by kernel_rfl) (by kernel_rfl) (by kernel_rfl) (by kernel_rfl)) ?_
  intro W base args ds gs before hval0 hW hcnd _
  have hval : ∀ (j : Nat) t v, Yba.f3.params[j]? = some t → args[j]? = some v → Value.okWide Yba.prog W .any base t v := hval0
  have hW' := hW
  obtain ⟨p, q, hA0, hV, rfl, hfz, hnd⟩ := hW
  have hA : DataW.TrodAll enc Yba.prog W 0 (fun _ => true) true Yba.f3.params.toList args.toList ds p := hA0
  rw [Yba.params3] at hA hval
  obtain ⟨v0, vs0, d0, ds0, p0, q0, hargs, rfl, rfl, h0, r0⟩ := trodAll_cons hA
  obtain ⟨v1, vs1, d1, ds1, p1, q1, rfl, rfl, rfl, h1, r1⟩ := trodAll_cons r0
  obtain ⟨v2, vs2, d2, ds2, p2, q2, rfl, rfl, rfl, h2, r2⟩ := trodAll_cons r1
  obtain ⟨v3, vs3, d3, ds3, p3, q3, rfl, rfl, rfl, h3, r3⟩ := trodAll_cons r2
  obtain ⟨v4, vs4, d4, ds4, p4, q4, rfl, rfl, rfl, h4, r4⟩ := trodAll_cons r3
  obtain ⟨v5, vs5, d5, ds5, p5, q5, rfl, rfl, rfl, h5, r5⟩ := trodAll_cons r4
  obtain ⟨v6, vs6, d6, ds6, p6, q6, rfl, rfl, rfl, h6, r6⟩ := trodAll_cons r5
  obtain ⟨v7, vs7, d7, ds7, p7, q7, rfl, rfl, rfl, h7, r7⟩ := trodAll_cons r6
  obtain ⟨v8, vs8, d8, ds8, p8, q8, rfl, rfl, rfl, h8, r8⟩ := trodAll_cons r7
  obtain ⟨rfl, rfl, rfl⟩ := trodAll_nil r8
  obtain rfl : args = #[v0, v1, v2, v3, v4, v5, v6, v7, v8] := by cases args; simp_all
  obtain ⟨rfl, rfl⟩ := trodVars_none hV
  obtain ⟨a0, rfl, rfl, rfl⟩ := open_bool Yba.underlying4 (hval 0 4 v0 rfl rfl) h0
  obtain ⟨a1, rfl, rfl, rfl⟩ := open_bool Yba.underlying4 (hval 1 4 v1 rfl rfl) h1
  obtain ⟨a2, rfl, rfl, rfl, w2⟩ := open_int Yba.underlying5 (hval 2 5 v2 rfl rfl) h2
  obtain ⟨a3, rfl, rfl, rfl⟩ := open_bool Yba.underlying4 (hval 3 4 v3 rfl rfl) h3
  obtain ⟨a8, rfl, rfl, rfl, w8⟩ := open_int Yba.underlying5 (hval 8 5 v8 rfl rfl) h8
  obtain ⟨a4, l4, c4, rfl⟩ := okWide_slice Yba.underlying22 (hval 4 22 v4 rfl rfl)
  obtain ⟨a5, l5, c5, rfl⟩ := okWide_slice Yba.underlying22 (hval 5 22 v5 rfl rfl)
  obtain ⟨a6, l6, c6, rfl⟩ := okWide_slice Yba.underlying23 (hval 6 23 v6 rfl rfl)
  obtain ⟨a7, l7, c7, rfl⟩ := okWide_slice Yba.underlying24 (hval 7 24 v7 rfl rfl)
  have k4 := h4
  have k5 := h5
  have k6 := h6
  have k7 := h7
  have lt4 : ∀ x ∈ p4, x.block < W.heap.size := by obtain ⟨m, hm⟩ := k4; exact DataW.trod_lt m _ _ _ hm
  have lt5 : ∀ x ∈ p5, x.block < W.heap.size := by obtain ⟨m, hm⟩ := k5; exact DataW.trod_lt m _ _ _ hm
  have lt6 : ∀ x ∈ p6, x.block < W.heap.size := by obtain ⟨m, hm⟩ := k6; exact DataW.trod_lt m _ _ _ hm
  have lt7 : ∀ x ∈ p7, x.block < W.heap.size := by obtain ⟨m, hm⟩ := k7; exact DataW.trod_lt m _ _ _ hm
  obtain ⟨⟨s4, o4⟩, z4⟩ := open_src h4
  obtain ⟨⟨s5, o5⟩, z5⟩ := open_src h5
  have o6 := open_sets h6
  have o7 := open_steps h7
  have bd2 := bounds_u8 w2
  have bd8 := bounds_u8 w8
  obtain ⟨n2, rfl⟩ := Int.eq_ofNat_of_zero_le bd2.1
  obtain ⟨n8, rfl⟩ := Int.eq_ofNat_of_zero_le bd8.1
  clear hA0 hval0
  refine (walk a0 a1 a3 n2 n8 a4 a5 a6 a7 l4 c4 l5 c5 l6 c6 l7 c7 s4 s5 W (by omega) (by omega) o4 z4 o5 z5 o6 o7).mono fun e W' ⟨he, hc⟩ => ?_
  subst he
  have bel : Below W.heap.size W W' := hc.below (Below.refl _ _) (Nat.le_refl _) (fun _ e => e.elim)
  exact ⟨_, rfl, _, _, _, [], _, [], hW', trodAll_mk1 (shut_bool Yba.underlying4 _), (trodAll_cons_mk (shut_bool Yba.underlying4 _) (trodAll_cons_mk (shut_bool Yba.underlying4 _) (trodAll_cons_mk (shut_int Yba.underlying5 w2) (trodAll_cons_mk (shut_bool Yba.underlying4 _)
    (trodAll_cons_mk (Below.trod laidOut (by kernel_rfl) (of_decide_eq_true (by kernel_rfl)) k4 bel lt4) (trodAll_cons_mk (Below.trod laidOut (by kernel_rfl) (of_decide_eq_true (by kernel_rfl)) k5 bel lt5) (trodAll_cons_mk (Below.trod laidOut (by kernel_rfl) (of_decide_eq_true (by kernel_rfl)) k6 bel lt6)
    (trodAll_cons_mk (Below.trod laidOut (by kernel_rfl) (of_decide_eq_true (by kernel_rfl)) k7 bel lt7) (trodAll_cons_mk (shut_int Yba.underlying5 w8) trodAll_mk0))))))))), rfl, bel.frame _, fun h => by cases h⟩

theorem over : Rows.lawS1592AScriptRow.holds Yba.pinned (OpenSpec.ofChange Rows.lawS1592AScriptSpec) :=
  OpenClaim.holds_of_wide 3 Yba.f3 rfl rfl rfl rfl rfl rfl rfl ⟨rfl, rfl, rfl, rfl, rfl⟩ rfl rfl rfl rfl rfl (by kernel_rfl) Yba.func3 (by kernel_rfl)
    (of_decide_eq_true (by kernel_rfl)) (by unfold Func.isWrapper; first | (rw [if_pos (by decide +kernel)]; kernel_rfl) | (rw [if_neg (by decide +kernel)]; exact ⟨rfl, rfl⟩))
    (fun os started H enc _ => lifted os started H enc)

/-- THE STATEMENT -/
theorem proved : Rows.LawS1592AScriptSaid := over
end Go.Proofs.Ybulkafyg.lawS1592AScript
