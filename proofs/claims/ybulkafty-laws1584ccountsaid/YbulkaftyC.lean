/-
  The contracts beneath LawS1584CCount and LawS1584CArmed: atomic Store and Load, WaitGroup.Add(1) on a fresh group, countFired. One goroutine.
-/
import Derived.Test.YbulkaftyRows
import Derived.WalkKit
import Derived.ProofKit
import Derived.OpenShut
import Derived.Defers
import Derived.Laws.Pointers
import Derived.Laws.LoneSync
import Derived.Laws.NewBlocks
namespace Go.Proofs.Ybulkafty
open Go.RowKit

theorem c_disable (w : World) : (callFunc 22 #[]).run Yba.prog w = .ok (.value (.tuple #[])) w := run_call_mark0 Yba.func22 (by kernel_rfl) (by kernel_rfl) (by kernel_rfl) .disable (by kernel_rfl) w
theorem c_enable (w : World) : (callFunc 23 #[]).run Yba.prog w = .ok (.value (.tuple #[])) w := run_call_mark0 Yba.func23 (by kernel_rfl) (by kernel_rfl) (by kernel_rfl) .enable (by kernel_rfl) w
theorem c_read (a : Addr) (w : World) : (callFunc 29 #[.pointer (some a)]).run Yba.prog w = .ok (.value (.tuple #[])) w := run_call_marked Yba.func29 (by kernel_rfl) (by kernel_rfl) (by kernel_rfl) (.read ·) (by kernel_rfl) a w
theorem c_bubble (w : World) : (callFunc 24 #[]).run Yba.prog w = .ok (.value (.bool false)) w := by
  rw [run_callFunc_extern Yba.func24 (by kernel_rfl) (by kernel_rfl) (by kernel_rfl) (e := fun _ => pure (.bool false)) (by kernel_rfl)]
  rfl

/-- the conversion of a *uint32 to the untyped pointer type, where a cell stands: the same address -/
theorem c_conv (a : Addr) (v : Value) (w : World) (hc : w.cell? a = some v) : (convert 114 108 (.pointer (some a))).run Yba.prog w = .ok (.pointer (some a)) w := by
  obtain ⟨e, n, hsh, hlt, hsp⟩ := World.shape?_of_cell? hc
  have hsz : (Yba.prog.info? 31).map (fun i => decide (i.size = 0)) = some false := by kernel_rfl
  obtain ⟨i, hi, hz0⟩ := Option.map_eq_some_iff.1 hsz
  have hz : i.size ≠ 0 := by simpa using hz0
  have hge : ¬ (n ≤ a.off) := by omega
  simp [convert, run_underlying Yba.underlying114, run_underlying Yba.underlying108]
  refine (Sem.run_bind (x := underlying 114) ..).trans ?_
  simp [Conv.seenAt, viewAt, cellsIn, sizeOf, typeInfo, hi, hz, hsh, hge, Result.andThen, run_underlying Yba.underlying114, run_underlying Yba.underlying108]

/-- (*atomic.Uint64).Store -/
theorem c_store (a : Addr) (y : Int) (u : Value) (w : World) (hc : w.cell? a = some u) (hz : w.frozen? a = false) :
    Calls Yba.prog 14 #[.pointer (some a), .int .u64 y] w fun e w' => e = .returned (.tuple #[]) ∧ w' = w.setCell a (.int .u64 y) := by
  have hst := run_call_store (P := Yba.prog) Yba.func18 (by kernel_rfl) (by kernel_rfl) (by kernel_rfl) (by kernel_rfl) (k := .u64) (y := y) hc hz
  go_enter Yba.func14, Yba.ntmps14
  go_wp2
  go_end0
  exact ⟨rfl, rfl⟩

/-- (*atomic.Uint64).Load -/
theorem c_load (a : Addr) (x : Int) (w : World) (hc : w.cell? a = some (.int .u64 x)) :
    Calls Yba.prog 16 #[.pointer (some a)] w fun e w' => e = .returned (.int .u64 x) ∧ w' = w := by
  have hld := run_call_load (P := Yba.prog) Yba.func20 (by kernel_rfl) (by kernel_rfl) (by kernel_rfl) .u64 (by kernel_rfl) hc
  go_enter Yba.func16, Yba.ntmps16
  go_wp2
  go_ret
  exact ⟨rfl, rfl⟩

end Go.Proofs.Ybulkafty
