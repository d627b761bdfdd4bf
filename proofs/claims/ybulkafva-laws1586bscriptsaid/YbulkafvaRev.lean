/-
  (*revision).awaited and (*revision).advance, by contracts. One goroutine.
-/
import Derived.Test.YbulkafvaClosed
import Derived.WalkKit
import Derived.ProofKit
import Derived.OpenShut
import Derived.Laws.NewBlocks
import Derived.WalkSpells
namespace Go.Proofs.Ybulkafva
open Go.RowKit Go.Conc

/-- block B is a revision: its number, its channel -/
def Rev (w : World) (B : Nat) (x : Int) (o : Option Nat) : Prop := w.heap[B]? = some (.cells #[.int .i64 x, .chan o] 25 (0, 0))
/-- block c is an open, empty channel without a buffer -/
def Open (w : World) (c : Nat) : Prop := w.heap[c]? = some (.chan 0 #[] false 0 0 false)
/-- block c is a closed one -/
def Shut (w : World) (c : Nat) : Prop := w.heap[c]? = some (.chan 0 #[] true 0 0 false)

theorem Rev.cell0 {w : World} {B : Nat} {x : Int} {o : Option Nat} (h : Rev w B x o) : w.cell? ⟨B, 0, none⟩ = some (.int .i64 x) := by unfold Rev at h; simp [World.cell?, h]
theorem Rev.cell1 {w : World} {B : Nat} {x : Int} {o : Option Nat} (h : Rev w B x o) : w.cell? ⟨B, 1, none⟩ = some (.chan o) := by unfold Rev at h; simp [World.cell?, h]
theorem Rev.free {w : World} {B : Nat} {x : Int} {o : Option Nat} (h : Rev w B x o) (i : Nat) : w.frozen? ⟨B, i, none⟩ = false := by unfold Rev at h; simp [World.frozen?, h]
theorem Rev.lt {w : World} {B : Nat} {x : Int} {o : Option Nat} (h : Rev w B x o) : B < w.heap.size := by unfold Rev at h; exact (Array.getElem?_eq_some_iff.1 h).1
theorem Rev.set0 {w : World} {B : Nat} {x : Int} {o : Option Nat} (h : Rev w B x o) (y : Int) : Rev (w.setCell ⟨B, 0, none⟩ (.int .i64 y)) B y o := by
  unfold Rev at *; simp [World.setCell, Array.getElem?_modify, h]
theorem Rev.set1 {w : World} {B : Nat} {x : Int} {o : Option Nat} (h : Rev w B x o) (p : Option Nat) : Rev (w.setCell ⟨B, 1, none⟩ (.chan p)) B x p := by
  unfold Rev at *; simp [World.setCell, Array.getElem?_modify, h]
theorem Rev.alloc {w : World} {B : Nat} {x : Int} {o : Option Nat} (h : Rev w B x o) (ob : Obj) : Rev (w.alloc ob) B x o := by
  have hl := h.lt
  unfold Rev at *
  show (w.heap.push ob)[B]? = _
  rw [Array.getElem?_push_lt hl, ← h, Array.getElem?_eq_getElem hl]

theorem mk0 (w : World) : (Instr.makeChan 23 (.int .i64 0)).run Yba.prog w = .ok (.chan (some w.heap.size)) (w.alloc (.chan 0 #[] false 0 0 false)) := by
  have h : (Yba.prog.info? 32).map (·.bytes) = some 0 := by kernel_rfl
  obtain ⟨i, hi, hb⟩ := Option.map_eq_some_iff.1 h
  simpa using run_makeChan (P := Yba.prog) (w := w) Yba.underlying23 hi .i64 0 (by omega) (by rw [hb]; omega)

theorem equalIn_chan (d : Nat) (t : TypeId) (dir : ChanDir) (e : TypeId) (ht : Yba.prog.underlying t = some (.chan dir e)) (a b : Option Nat) (w : World) :
    (Op.equalIn (d + 1) t (.chan a) (.chan b)).run Yba.prog w = .ok (a == b) w := by
  simp [Op.equalIn, run_underlying ht]
theorem eql_chan (t : TypeId) (dir : ChanDir) (e : TypeId) (ht : Yba.prog.underlying t = some (.chan dir e)) (a b : Option Nat) (w : World) :
    (binOp .eql t (.chan a) (.chan b)).run Yba.prog w = .ok (.bool (a == b)) w := by
  simp only [binOp]
  simp [Op.equal, Op.maxDepth, equalIn_chan 9999 t dir e ht]
theorem neq_chan (t : TypeId) (dir : ChanDir) (e : TypeId) (ht : Yba.prog.underlying t = some (.chan dir e)) (a b : Option Nat) (w : World) :
    (binOp .neq t (.chan a) (.chan b)).run Yba.prog w = .ok (.bool (!(a == b))) w := by
  simp only [binOp]
  simp [Op.equal, Op.maxDepth, equalIn_chan 9999 t dir e ht]

/-- awaited, nobody has waited yet: a new channel -/
theorem awaited_new (B : Nat) (x : Int) (w : World) (h : Rev w B x none) :
    Calls Yba.prog 5 #[.pointer (some ⟨B, 0, none⟩)] w fun e w' => e = .returned (.chan (some w.heap.size)) ∧
      w' = (w.alloc (.chan 0 #[] false 0 0 false)).setCell ⟨B, 1, none⟩ (.chan (some w.heap.size)) := by
  have c1 := h.cell1
  have g1 := (h.alloc (.chan 0 #[] false 0 0 false)).cell1
  have k1 := (h.alloc (.chan 0 #[] false 0 0 false)).free 1
  have hmc := mk0
  have q1 := eql_chan 23 _ _ Yba.underlying23
  clear h
  go_enter Yba.func5, Yba.ntmps5
  go_wp2
  go_ret
  exact ⟨rfl, rfl⟩

/-- awaited, somebody has waited: the channel that is there -/
theorem awaited_old (B : Nat) (x : Int) (c : Nat) (w : World) (h : Rev w B x (some c)) :
    Calls Yba.prog 5 #[.pointer (some ⟨B, 0, none⟩)] w fun e w' => e = .returned (.chan (some c)) ∧ w' = w := by
  have c1 := h.cell1
  have q1 := eql_chan 23 _ _ Yba.underlying23
  clear h
  go_enter Yba.func5, Yba.ntmps5
  go_wp2
  go_ret
  exact ⟨rfl, rfl⟩

/-- advance, nobody waits -/
theorem advance_none (B : Nat) (x : Int) (w : World) (h : Rev w B x none) :
    Calls Yba.prog 7 #[.pointer (some ⟨B, 0, none⟩)] w fun e w' => e = .returned (.tuple #[]) ∧ w' = w.setCell ⟨B, 0, none⟩ (.int .i64 (wrap64 (x + 1))) := by
  have c0 := h.cell0
  have c1 := h.cell1
  have k0 := h.free 0
  have q1 := neq_chan 23 _ _ Yba.underlying23
  clear h
  go_enter Yba.func7, Yba.ntmps7
  go_wp2
  go_end0
  exact ⟨rfl, rfl⟩

/-- advance, somebody waits: the channel is closed and let go -/
theorem advance_some (B : Nat) (x : Int) (c : Nat) (w : World) (h : Rev w B x (some c)) (hc : Open w c) (hne : B ≠ c) :
    Calls Yba.prog 7 #[.pointer (some ⟨B, 0, none⟩)] w fun e w' => e = .returned (.tuple #[]) ∧
      w' = ((w.setCell ⟨B, 0, none⟩ (.int .i64 (wrap64 (x + 1)))).setChan c 0 #[] true 0 0 false).setCell ⟨B, 1, none⟩ (.chan none) := by
  have c0 := h.cell0
  have k0 := h.free 0
  have hs := h.set0 (wrap64 (x + 1))
  have c1 := h.cell1
  have hc' : Open (w.setCell ⟨B, 0, none⟩ (.int .i64 (wrap64 (x + 1)))) c := by
    unfold Open at *
    simp [World.setCell, Array.getElem?_modify, hne, hc]
  have hcl : ∀ (ats : Array TypeId) (ty : TypeId), (Builtin.close_ ats ty #[.chan (some c)]).run Yba.prog (w.setCell ⟨B, 0, none⟩ (.int .i64 (wrap64 (x + 1)))) =
      .ok (.tuple #[]) ((w.setCell ⟨B, 0, none⟩ (.int .i64 (wrap64 (x + 1)))).setChan c 0 #[] true 0 0 false) := fun ats ty => run_close_open (P := Yba.prog) ats ty hc'
  have ht : Rev ((w.setCell ⟨B, 0, none⟩ (.int .i64 (wrap64 (x + 1)))).setChan c 0 #[] true 0 0 false) B (wrap64 (x + 1)) (some c) := by
    unfold Rev at *
    simp only [World.setChan]
    rw [Array.getElem?_setIfInBounds_ne (by omega)]
    exact hs
  have t1 := ht.cell1
  have k1 := ht.free 1
  have q1 := neq_chan 23 _ _ Yba.underlying23
  clear h hs ht hc hc'
  go_enter Yba.func7, Yba.ntmps7
  go_wp2
  go_end0
  exact ⟨rfl, rfl⟩
end Go.Proofs.Ybulkafva
