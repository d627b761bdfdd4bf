/-
  The proof of Rows.LawS1586BStableSaid.
-/
import Derived.Test.YbulkafvaRev
import Derived.WalkKit
import Derived.ProofKit
import Derived.OpenShut
import Derived.ShutString
namespace Go.Proofs.Ybulkafva.lawS1586BStable
open Go.ChangeShapes Go.WideShapes Go.ChangeAt Go.RowKit
open Go.ChangeMaps (open_string shut_string)
set_option linter.unusedVariables false      -- a walk need not use every 'w<i>' (that an integer argument fits its kind)

theorem rev_one (w : World) (x : Int) (o : Option Nat) : Rev (w.alloc (.cells #[.int .i64 x, .chan o] 25)) w.heap.size x o := by
  show (w.heap.push _)[w.heap.size]? = _
  simp
theorem rev_two (w : World) (x : Int) (o : Option Nat) : Rev ((w.alloc (.cells #[.int .i64 x, .chan o] 25)).alloc (.chan 0 #[] false 0 0 false)) w.heap.size x o := (rev_one w x o).alloc _
theorem chan_two (w : World) (ob : Obj) : ((w.alloc ob).alloc (.chan 0 #[] false 0 0 false)).heap[w.heap.size + 1]? = some (.chan 0 #[] false 0 0 false) := by
  have h := heap_alloc_new (w.alloc ob) (.chan 0 #[] false 0 0 false)
  simpa using h
theorem grown_chan {W w' : World} (h : Grown W w') : Grown W (w'.alloc (.chan 0 #[] false 0 0 false)) := by
  refine ⟨World.keptBut_trans h.1 (World.keptBut_alloc _ _ _), fun a => Eq.trans ?_ (h.2.1 a), Nat.le_trans h.2.2 (by show w'.heap.size ≤ (w'.heap.push _).size; simp)⟩
  by_cases hb : a.block = w'.heap.size
  · have e1 := heap_alloc_new w' (.chan 0 #[] false 0 0 false)
    have e2 : w'.heap[a.block]? = none := by rw [hb]; simp
    rw [← hb] at e1
    simp [World.frozen?, e1, e2]
  · exact World.frozen?_alloc_old _ _ _ hb

theorem own : ownKnob Yba.prog.godebug = none := by kernel_rfl

/-! ### STEP 1: THE WALK: the Go text returns true. 'Grown w w'': the world has at most new blocks (Derived/RowKit3.lean). Part the cases AHEAD of 'go_enter' where a test parts the walk; take each callee by a contract of your own. -/
theorem walk (a0 : Int) (a1 : Bool) (w0 : (Lit.int .i64 a0).wf = true) (w : World) :
    Calls Yba.prog 3 #[.int .i64 a0, .bool a1] w fun e w' => e = .returned (.bool true) ∧ Grown w w' := by
  have hmc := mk0
  have q1 := eql_chan 23 _ _ Yba.underlying23
  have q2 := neq_chan 23 _ _ Yba.underlying23
  have q3 := eql_chan 26 _ _ Yba.underlying26
  have q4 := neq_chan 26 _ _ Yba.underlying26
  cases a1 with
  | true =>
    go_enter Yba.func3, Yba.ntmps3
    go_wp2_with (first
      | (go_at_call 5; refine (awaited_old _ a0 (w.heap.size + 1) _ (rev_two w a0 _)).mono ?_; rintro e w' ⟨rfl, rfl⟩)
      | (go_at_call 6; refine (closed_no _ _ _ _ _ _ (chan_two w _)).mono ?_; rintro e w' ⟨rfl, rfl⟩))
    go_ret
    exact ⟨rfl, grown_chan (Grown.alloc (Grown.refl _) _ _)⟩
  | false =>
    go_enter Yba.func3, Yba.ntmps3
    go_wp2_with fail
    refine (awaited_new _ a0 _ (rev_one w a0 _)).mono ?_
    rintro e w' ⟨rfl, rfl⟩
    go_wp2_with (first
      | (go_at_call 5; refine (awaited_old _ a0 (w.heap.size + 1) _ (rev_two w a0 _)).mono ?_; rintro e w' ⟨rfl, rfl⟩)
      | (go_at_call 6; refine (closed_no _ _ _ _ _ _ (chan_two w _)).mono ?_; rintro e w' ⟨rfl, rfl⟩))
    go_ret
    exact ⟨rfl, grown_chan (Grown.alloc (Grown.refl _) _ _)⟩

/-! ### THE ROW's STEP: WRITTEN OUT: LEAVE IT -/
set_option maxRecDepth 100000 in
theorem lifted (os : Os) (started : os.Started) (H : Type) (enc : TypeId × Value → H) :
    ReturnsInHanded {} Yba.checked os 3 .any (Rows.lawS1586BStableSpec.pre6 enc Yba.prog Yba.f3 Rows.lawS1586BStableRow.domain false) (Rows.lawS1586BStableSpec.post enc Yba.prog Yba.f3 false true false false) := by
  refine returnsInHanded_of_change (C := Yba.checked) own started (by kernel_rfl) Yba.func3
    (ChangeSpec.witness6 (enc := enc) (C := Yba.checked) false ⟨#[], #[.int .i64 0, .bool false], []⟩ 8 (by kernel_rfl) (by kernel_rfl) (by kernel_rfl) (by kernel_rfl)) ?_
  intro W base args ds gs before hval0 hW hcnd _
  have hval : ∀ (j : Nat) t v, Yba.f3.params[j]? = some t → args[j]? = some v → Value.okWide Yba.prog W .any base t v := hval0
  have hW' := hW
  obtain ⟨p, q, hA0, hV, rfl, hfz, hnd⟩ := hW
  have hA : DataW.TrodAll enc Yba.prog W 0 (fun _ => true) true Yba.f3.params.toList args.toList ds p := hA0
  rw [Yba.params3] at hA hval
  obtain ⟨v0, vs0, d0, ds0, p0, q0, hargs, rfl, rfl, h0, r0⟩ := trodAll_cons hA
  obtain ⟨v1, vs1, d1, ds1, p1, q1, rfl, rfl, rfl, h1, r1⟩ := trodAll_cons r0
  obtain ⟨rfl, rfl, rfl⟩ := trodAll_nil r1
  obtain rfl : args = #[v0, v1] := by cases args; simp_all
  obtain ⟨rfl, rfl⟩ := trodVars_none hV
  obtain ⟨a0, rfl, rfl, rfl, w0⟩ := open_int Yba.underlying3 (hval 0 3 v0 rfl rfl) h0
  obtain ⟨a1, rfl, rfl, rfl⟩ := open_bool Yba.underlying4 (hval 1 4 v1 rfl rfl) h1
  clear hA0 hval0
  simp only [List.append_nil] at hW'
  refine (walk a0 a1 w0 W).mono fun e W' ⟨he, hg⟩ => ?_
  subst he
  exact ⟨_, rfl, post_of_same (pa := []) (pv := []) hW' (fun _ _ _ => (trodAll_cons_mk (shut_bool Yba.underlying4 _) trodAll_mk0)) (fun sp _ => (trodAll_cons_mk (shut_int Yba.underlying3 w0) (trodAll_cons_mk (shut_bool Yba.underlying4 _) trodAll_mk0))) (fun _ _ => rfl) rfl
    (hg.frame _) hg.2.1 (ok_one (by kernel_rfl) rfl (okWide_bool_mk Yba.underlying4 _))⟩

theorem over : Rows.lawS1586BStableRow.holds Yba.pinned (OpenSpec.ofChange Rows.lawS1586BStableSpec) :=
  OpenClaim.holds_of_wide 3 Yba.f3 rfl rfl rfl rfl rfl rfl rfl ⟨rfl, rfl, rfl, rfl, rfl⟩ rfl rfl rfl rfl rfl (by kernel_rfl) Yba.func3 (by kernel_rfl)
    (of_decide_eq_true (by kernel_rfl)) (by unfold Func.isWrapper; first | (rw [if_pos (by decide +kernel)]; kernel_rfl) | (rw [if_neg (by decide +kernel)]; exact ⟨rfl, rfl⟩))
    (fun os started H enc _ => lifted os started H enc)

/-- ████ THE STATEMENT ████ -/
theorem proved : Rows.LawS1586BStableSaid :=
  over
end Go.Proofs.Ybulkafva.lawS1586BStable
