/-
  The proof of Rows.LawS1586BScriptSaid.
-/
import Derived.Test.YbulkafvaRev
import Derived.WalkKit
import Derived.ProofKit
import Derived.OpenShut
import Derived.ShutString
import Derived.ChangeOld
import Derived.Below
namespace Go.Proofs.Ybulkafva.lawS1586BScript
open Go.ChangeShapes Go.WideShapes Go.ChangeAt Go.RowKit Go.Conc
open Go.ChangeMaps (open_string shut_string)
set_option linter.unusedVariables false

theorem own : ownKnob Yba.prog.godebug = none := by kernel_rfl
theorem laidOut : laidOutB Yba.prog = true := by kernel_rfl

/-- WHAT THE WALK IS TOLD OF A SLICE OF INTEGERS THAT CAME IN: it is nil; or it leads to a row of 'cap' cells, the numbers 'zs' (the first 'len' are its elements, the rest its spare room), each fitting its kind. -/
def IsRow (k : IntKind) (w : World) (a : Option Addr) (len cap : Nat) (zs : List Int) : Prop :=
  (a = none ∧ len = 0 ∧ cap = 0 ∧ zs = []) ∨
  ∃ x, a = some x ∧ len ≤ cap ∧ cap ≤ maxLen ∧ zs.length = cap ∧ (∀ i, i < zs.length → w.cell? (x.add i) = some (.int k (zs.getD i 0))) ∧ ∀ n ∈ zs, (Lit.int k n).wf = true

theorem rev_one (w : World) (x : Int) (o : Option Nat) : Rev (w.alloc (.cells #[.int .i64 x, .chan o] 25)) w.heap.size x o := by
  show (w.heap.push _)[w.heap.size]? = _
  simp

/-- what holds at each round's head: the revision's block, its number, its channel (open, or none), and that nothing older has turned -/
structure Inv (w : World) (a0 : Int) (wr : World) (c : Nat) (o : Option Nat) : Prop where
  rev : Rev wr w.heap.size (wrap64 (a0 + c)) o
  chan : ∀ x, o = some x → w.heap.size < x ∧ Open wr x
  below : Below w.heap.size w wr

theorem lt_of_cell {w : World} {a : Addr} {v : Value} (h : w.cell? a = some v) : a.block < w.heap.size := by
  unfold World.cell? at h
  split at h
  · rename_i hb
    exact (Array.getElem?_eq_some_iff.1 hb).1
  · cases h

theorem wrap_step (a0 : Int) (c : Nat) : wrap64 (wrap64 (a0 + c) + 1) = wrap64 (a0 + ((c + 1 : Nat) : Int)) := by
  unfold wrap64; omega

theorem inv_new {w : World} {a0 : Int} {wr : World} {c : Nat} (h : Inv w a0 wr c none) :
    Inv w a0 ((wr.alloc (.chan 0 #[] false 0 0 false)).setCell ⟨w.heap.size, 1, none⟩ (.chan (some wr.heap.size))) c (some wr.heap.size) := by
  refine ⟨(h.rev.alloc _).set1 _, fun x hx => ?_, (h.below.alloc h.below.size _).setCell (Nat.le_refl _) _⟩
  cases hx
  have hl := h.rev.lt
  refine ⟨hl, ?_⟩
  unfold Open
  have h1 := heap_alloc_new wr (.chan 0 #[] false 0 0 false)
  simp only [World.setCell, Array.getElem?_modify]
  rw [if_neg (by omega), h1]

theorem inv_adv_none {w : World} {a0 : Int} {wr : World} {c : Nat} (h : Inv w a0 wr c none) :
    Inv w a0 (wr.setCell ⟨w.heap.size, 0, none⟩ (.int .i64 (wrap64 (wrap64 (a0 + c) + 1)))) (c + 1) none := by
  refine ⟨?_, fun x hx => (by cases hx), h.below.setCell (Nat.le_refl _) _⟩
  rw [← wrap_step]
  exact h.rev.set0 _

theorem inv_adv_some {w : World} {a0 : Int} {wr : World} {c x : Nat} (h : Inv w a0 wr c (some x)) :
    Inv w a0 (((wr.setCell ⟨w.heap.size, 0, none⟩ (.int .i64 (wrap64 (wrap64 (a0 + c) + 1)))).setChan x 0 #[] true 0 0 false).setCell ⟨w.heap.size, 1, none⟩ (.chan none)) (c + 1) none ∧
    Shut (((wr.setCell ⟨w.heap.size, 0, none⟩ (.int .i64 (wrap64 (wrap64 (a0 + c) + 1)))).setChan x 0 #[] true 0 0 false).setCell ⟨w.heap.size, 1, none⟩ (.chan none)) x := by
  obtain ⟨hx, ho⟩ := h.chan x rfl
  have hxl : x < wr.heap.size := by unfold Open at ho; exact (Array.getElem?_eq_some_iff.1 ho).1
  have h1 := h.rev.set0 (wrap64 (wrap64 (a0 + c) + 1))
  have h2 : Rev ((wr.setCell ⟨w.heap.size, 0, none⟩ (.int .i64 (wrap64 (wrap64 (a0 + c) + 1)))).setChan x 0 #[] true 0 0 false) w.heap.size (wrap64 (wrap64 (a0 + c) + 1)) (some x) := by
    unfold Rev at *
    simp only [World.setChan]
    rw [Array.getElem?_setIfInBounds_ne (by omega)]
    exact h1
  refine ⟨⟨?_, fun y hy => (by cases hy), ?_⟩, ?_⟩
  · rw [← wrap_step]
    exact h2.set1 _
  · exact (below_setChan (h.below.setCell (Nat.le_refl _) _) (by omega) _ _ _ _ _ _).setCell (Nat.le_refl _) _
  · unfold Shut
    have h3 := heap_setChan (wr.setCell ⟨w.heap.size, 0, none⟩ (.int .i64 (wrap64 (wrap64 (a0 + c) + 1)))) x 0 #[] true 0 0 false (by simpa [World.setCell] using hxl)
    simp only [World.setCell, Array.getElem?_modify] at *
    rw [if_neg (by omega), h3]

/-! ### STEP 1 -/
set_option maxHeartbeats 1600000 in
theorem walk_some (a0 : Int) (w0 : (Lit.int .i64 a0).wf = true) (b off len1 cap1 : Nat) (z1 : List Int) (w : World) (hlc : len1 ≤ cap1) (hz : z1.length = cap1)
    (hcell : ∀ i, i < z1.length → w.cell? ⟨b, off + i, none⟩ = some (.int .u8 (z1.getD i 0))) (hwf : ∀ n ∈ z1, (Lit.int .u8 n).wf = true) (hle : len1 ≤ 1024) :
    Calls Yba.prog 4 #[.int .i64 a0, .slice (some ⟨b, off, none⟩) len1 cap1] w fun e w' => e = .returned (.bool true) ∧ Below w.heap.size w w' := by
  have hmc := mk0
  have q1 := eql_chan 23 _ _ Yba.underlying23
  have q2 := neq_chan 23 _ _ Yba.underlying23
  have q3 := eql_chan 26 _ _ Yba.underlying26
  have q4 := neq_chan 26 _ _ Yba.underlying26
  have hd : decide ((1024 : Int) < (len1 : Int)) = false := by simp; omega
  go_enter Yba.func4, Yba.ntmps4
  go_wp2
  go_loopw [6, 7, 19] (fun cur cnt i wr => ∃ (k c : Nat) (o : Option Nat), k ≤ len1 ∧ c ≤ k ∧ i = .int .i64 k ∧ cnt = .int .i64 c ∧ cur = .chan o ∧ Inv w a0 wr c o)
    (fun _ _ i _ => len1 - (intOf i).toNat)
  case atStart =>
    have hb0 := bounds_i64 w0
    have hw0 : wrap64 (a0 + ((0 : Nat) : Int)) = a0 := by rw [IntWalk.wrap64_in _ (by omega)]; omega
    exact ⟨0, 0, none, Nat.zero_le _, Nat.le_refl _, rfl, rfl, rfl, ⟨by rw [hw0]; exact rev_one w a0 none, fun x hx => (by cases hx), (Below.refl _ _).alloc (Nat.le_refl _) _⟩⟩
  case round =>
    obtain ⟨k, c, o, hk, hck, rfl, rfl, rfl, hinv⟩ := hrel
    by_cases hlt : k < len1
    · obtain ⟨z, hzv⟩ : ∃ z, z = z1.getD k 0 := ⟨_, rfl⟩
      have hcz := hcell k (by omega)
      rw [← hzv] at hcz
      have hbz : 0 ≤ z ∧ z ≤ 255 := by
        apply bounds_u8; apply hwf; rw [hzv]
        rw [List.getD_eq_getElem?_getD, List.getElem?_eq_getElem (by omega)]
        exact List.getElem_mem _
      have hlb : b < w.heap.size := lt_of_cell hcz
      have hcr : wr.cell? ⟨b, off + k, none⟩ = some (.int .u8 z) := (hinv.below.cell (p := ⟨b, off + k, none⟩) hlb).trans hcz
      clear hzv hcz hwf hcell
      by_cases hpar : z % 2 = 0
      · have hpar' : (z % 2 == 0) = true := by simpa using hpar
        clear hpar
        cases o with
        | none =>
          have hn := inv_new hinv
          have hrev := hinv.rev
          clear hinv
          go_wp2_with (first
            | (go_at_call 5; refine (awaited_new _ _ _ hrev).mono ?_; rintro e w' ⟨rfl, rfl⟩)
            | (go_at_call 6; refine (closed_no _ _ _ _ _ _ (hn.chan _ rfl).2).mono ?_; rintro e w' ⟨rfl, rfl⟩))
          go_roundw
          case rel => exact ⟨k + 1, c, _, by omega, by omega, by go_num, rfl, rfl, hn⟩
          case measure => simp [intOf]; omega
        | some x =>
          have hrev := hinv.rev
          have ho := (hinv.chan x rfl).2
          go_wp2_with (first
            | (go_at_call 5; refine (awaited_old _ _ _ _ hrev).mono ?_; rintro e w' ⟨rfl, rfl⟩)
            | (go_at_call 6; refine (closed_no _ _ _ _ _ _ ho).mono ?_; rintro e w' ⟨rfl, rfl⟩))
          go_roundw
          case rel => exact ⟨k + 1, c, _, by omega, by omega, by go_num, rfl, rfl, hinv⟩
          case measure => simp [intOf]; omega
      · have hpar' : (z % 2 == 0) = false := by simpa using hpar
        clear hpar
        cases o with
        | none =>
          have hn := inv_adv_none hinv
          have hrev := hinv.rev
          have c1 := hn.rev.cell1
          clear hinv
          go_wp2_with (go_at_call 7; refine (advance_none _ _ _ hrev).mono ?_; rintro e w' ⟨rfl, rfl⟩)
          go_roundw
          case rel => exact ⟨k + 1, c + 1, _, by omega, by omega, by go_num, by go_num, rfl, hn⟩
          case measure => simp [intOf]; omega
        | some x =>
          obtain ⟨hn, hs⟩ := inv_adv_some hinv
          have hrev := hinv.rev
          have c1 := hn.rev.cell1
          obtain ⟨hx, ho⟩ := hinv.chan x rfl
          clear hinv
          go_wp2_with (first
            | (go_at_call 7; refine (advance_some _ _ _ _ hrev ho (by omega)).mono ?_; rintro e w' ⟨rfl, rfl⟩)
            | (go_at_call 6; refine (closed_yes _ _ _ _ _ _ hs).mono ?_; rintro e w' ⟨rfl, rfl⟩))
          go_roundw
          case rel => exact ⟨k + 1, c + 1, _, by omega, by omega, by go_num, by go_num, rfl, hn⟩
          case measure => simp [intOf]; omega
    · have c0 := hinv.rev.cell0
      have hbel := hinv.below
      clear hinv
      go_wp2
      go_ret
      exact ⟨rfl, hbel⟩

theorem walk_empty (a0 : Int) (w0 : (Lit.int .i64 a0).wf = true) (a1 : Option Addr) (cap1 : Nat) (w : World) :
    Calls Yba.prog 4 #[.int .i64 a0, .slice a1 0 cap1] w fun e w' => e = .returned (.bool true) ∧ Below w.heap.size w w' := by
  have hb0 := bounds_i64 w0
  go_enter Yba.func4, Yba.ntmps4
  go_wp2
  refine wp_loop_rounds 1 ?_
  rw [rounds_succ]
  go_wp2
  go_ret
  exact ⟨rfl, (Below.refl _ _).alloc (Nat.le_refl _) _⟩

/-! ### STEP 1: THE WALK: the Go text returns true, AND WRITES NOTHING THAT WAS THERE: 'Below w.heap.size w w'' (Derived/Below.lean: '.refl', '.alloc', '.drew', '.setCell' at a new block, '.trans'). Open each 'IsRow' by 'rcases' AHEAD of 'go_enter'; part every test ahead of the walk. -/
theorem walk (a0 : Int) (a1 : Option Addr) (len1 cap1 : Nat) (z1 : List Int) (w : World) (w0 : (Lit.int .i64 a0).wf = true) (w1 : IsRow .u8 w a1 len1 cap1 z1) :
    Calls Yba.prog 4 #[.int .i64 a0, .slice a1 len1 cap1] w fun e w' => e = .returned (.bool true) ∧ Below w.heap.size w w' := by
  by_cases hle : len1 ≤ 1024
  · rcases w1 with ⟨rfl, rfl, rfl, rfl⟩ | ⟨x, rfl, hlc, hmx, hz, hcell, hwf⟩
    · exact walk_empty a0 w0 none 0 w
    · rcases Nat.eq_zero_or_pos len1 with rfl | hpos
      · exact walk_empty a0 w0 _ cap1 w
      · obtain ⟨b, off, rfl, hc⟩ := ints_at hcell (by omega)
        exact walk_some a0 w0 b off len1 cap1 z1 w hlc hz hc hwf hle
  · have hd : decide ((1024 : Int) < (len1 : Int)) = true := by simp; omega
    go_enter Yba.func4, Yba.ntmps4
    go_wp2
    go_ret
    exact ⟨rfl, Below.refl _ _⟩

/-! ### THE ROW's STEP: WRITTEN OUT: LEAVE IT -/
set_option maxRecDepth 100000 in
theorem lifted (os : Os) (started : os.Started) (H : Type) (enc : TypeId × Value → H) :
    ReturnsInHanded {} Yba.checked os 4 .any (Rows.lawS1586BScriptSpec.pre6 enc Yba.prog Yba.f4 Rows.lawS1586BScriptRow.domain false) (Rows.lawS1586BScriptSpec.post enc Yba.prog Yba.f4 false true false false) := by
  refine returnsInHanded_of_change (C := Yba.checked) own started (by kernel_rfl) Yba.func4
    (ChangeSpec.witness6 (enc := enc) (C := Yba.checked) false ⟨#[], #[.int .i64 0, .slice none 0 0], []⟩ 8 (by kernel_rfl) (by kernel_rfl) (by kernel_rfl) (by kernel_rfl)) ?_
  intro W base args ds gs before hval0 hW hcnd _
  have hval : ∀ (j : Nat) t v, Yba.f4.params[j]? = some t → args[j]? = some v → Value.okWide Yba.prog W .any base t v := hval0
  have hW' := hW
  obtain ⟨p, q, hA0, hV, rfl, hfz, hnd⟩ := hW
  have hA : DataW.TrodAll enc Yba.prog W 0 (fun _ => true) true Yba.f4.params.toList args.toList ds p := hA0
  rw [Yba.params4] at hA hval
  obtain ⟨v0, vs0, d0, ds0, p0, q0, hargs, rfl, rfl, h0, r0⟩ := trodAll_cons hA
  obtain ⟨v1, vs1, d1, ds1, p1, q1, rfl, rfl, rfl, h1, r1⟩ := trodAll_cons r0
  obtain ⟨rfl, rfl, rfl⟩ := trodAll_nil r1
  obtain rfl : args = #[v0, v1] := by cases args; simp_all
  obtain ⟨rfl, rfl⟩ := trodVars_none hV
  obtain ⟨a0, rfl, rfl, rfl, w0⟩ := open_int Yba.underlying3 (hval 0 3 v0 rfl rfl) h0
  obtain ⟨a1, len1, cap1, rfl⟩ := okWide_slice Yba.underlying30 (hval 1 30 v1 rfl rfl)
  have k1 := h1
  have lt1 : ∀ x ∈ p1, x.block < W.heap.size := by obtain ⟨m, hm⟩ := k1; exact DataW.trod_lt m _ _ _ hm
  obtain ⟨z1, w1⟩ : ∃ zs, IsRow .u8 W a1 len1 cap1 zs := by
    obtain ⟨fuel, hf⟩ := h1
    rcases open_ints Yba.underlying30 Yba.underlying5 (by kernel_rfl) hf with ⟨hcs, _⟩ | ⟨x, l, c, zs, hcs, _, hl, hm, hz, _, hcell, hwz⟩
    · simp [Value.cells] at hcs
      obtain ⟨rfl, rfl, rfl⟩ := hcs
      exact ⟨[], .inl ⟨rfl, rfl, rfl, rfl⟩⟩
    · simp [Value.cells] at hcs
      obtain ⟨rfl, rfl, rfl⟩ := hcs
      exact ⟨zs, .inr ⟨_, rfl, hl, hm, by simpa using hz, hcell, hwz⟩⟩
  clear hA0 hval0
  refine (walk a0 a1 len1 cap1 z1 W w0 w1).mono fun e W' ⟨he, bel⟩ => ?_
  subst he
  exact ⟨_, rfl, _, _, _, [], _, [], hW', trodAll_mk1 (shut_bool Yba.underlying4 _), (trodAll_cons_mk (shut_int Yba.underlying3 w0) (trodAll_cons_mk (Below.trod laidOut (by kernel_rfl) (of_decide_eq_true (by kernel_rfl)) k1 bel lt1) trodAll_mk0)), rfl, bel.frame _, fun h => by cases h⟩

theorem over : Rows.lawS1586BScriptRow.holds Yba.pinned (OpenSpec.ofChange Rows.lawS1586BScriptSpec) :=
  OpenClaim.holds_of_wide 4 Yba.f4 rfl rfl rfl rfl rfl rfl rfl ⟨rfl, rfl, rfl, rfl, rfl⟩ rfl rfl rfl rfl rfl (by kernel_rfl) Yba.func4 (by kernel_rfl)
    (of_decide_eq_true (by kernel_rfl)) (by unfold Func.isWrapper; first | (rw [if_pos (by decide +kernel)]; kernel_rfl) | (rw [if_neg (by decide +kernel)]; exact ⟨rfl, rfl⟩))
    (fun os started H enc _ => lifted os started H enc)

/-- ████ THE STATEMENT ████ -/
theorem proved : Rows.LawS1586BScriptSaid := over
end Go.Proofs.Ybulkafva.lawS1586BScript
