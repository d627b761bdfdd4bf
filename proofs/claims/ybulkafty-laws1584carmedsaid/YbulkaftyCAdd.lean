/-
  (*sync.WaitGroup).Add(1) on a group whose state word is 0; countFired. One goroutine.
-/
import Derived.Test.YbulkaftyDefer
namespace Go.Proofs.Ybulkafty
open Go.RowKit

/-- (*atomic.Uint64).Add -/
theorem c_uadd (a : Addr) (x y s : Int) (w : World) (hc : w.cell? a = some (.int .u64 x)) (hz : w.frozen? a = false)
    (hs : (Op.intArith .add .u64 x y).run Yba.prog w = .ok (.int .u64 s) w) :
    Calls Yba.prog 28 #[.pointer (some a), .int .u64 y] w fun e w' => e = .returned (.int .u64 s) ∧ w' = w.setCell a (.int .u64 s) := by
  have hadd := run_call_add (P := Yba.prog) Yba.func33 (by kernel_rfl) (by kernel_rfl) (by kernel_rfl) .u64 (by kernel_rfl) (y := y) (s := s) hc hz hs
  go_enter Yba.func28, Yba.ntmps28
  go_wp2
  go_ret
  exact ⟨rfl, rfl⟩

set_option maxRecDepth 100000 in
set_option maxHeartbeats 800000 in
/-- (*sync.WaitGroup).Add(1), the state word 0: the count becomes 1. -/
theorem c_add (b : Nat) (w : World) (h5 : w.cell? ⟨b, 5, none⟩ = some (.int .u64 0)) (h6 : w.cell? ⟨b, 6, none⟩ = some (.int .u32 0)) (f5 : w.frozen? ⟨b, 5, none⟩ = false) :
    Calls Yba.prog 19 #[.pointer (some ⟨b, 5, none⟩), .int .i64 1] w fun e w' => e = .returned (.tuple #[]) ∧ w' = w.setCell ⟨b, 5, none⟩ (.int .u64 4294967296) := by
  have hd := c_disable
  have hr := c_read
  have hb := c_bubble
  have h6' : (w.setCell ⟨b, 5, none⟩ (.int .u64 4294967296)).cell? ⟨b, 6, none⟩ = some (.int .u32 0) := by simp [go_sem, h6]
  have hcv := c_conv _ _ _ h6'
  refine calls_of_wp_deferV Yba.func19 rfl ?_
  simp only [Yba.ntmps19, List.size_toArray, List.length_cons, List.length_nil, Nat.reduceAdd, Nat.reduceSub, Array.replicate_succ,
     Array.replicate_zero, List.push_toArray, List.append_toArray, List.nil_append, List.cons_append]
  go_wp2_with (go_at_call 28; refine (c_uadd _ 0 _ 4294967296 _ h5 f5 (by simp [go_sem]; rfl)).mono ?_; rintro e w' ⟨rfl, rfl⟩)
  exact ⟨.func 23, #[], #[], _, _, rfl, c_enable _, results_none rfl _ _ _, rfl, rfl⟩

/-- countFired(true): nothing. -/
theorem c_count_pending (b : Nat) (w : World) :
    Calls Yba.prog 15 #[.pointer (some ⟨b, 0, none⟩), .bool true] w fun e w' => e = .returned (.tuple #[]) ∧ w' = w := by
  go_enter Yba.func15, Yba.ntmps15
  go_wp2
  go_end0
  exact ⟨rfl, rfl⟩

/-- countFired(false), no wake to come: nothing. -/
theorem c_count_none (b : Nat) (w : World) (h15 : w.cell? ⟨b, 15, none⟩ = some (.int .u64 18446744073709551615)) :
    Calls Yba.prog 15 #[.pointer (some ⟨b, 0, none⟩), .bool false] w fun e w' => e = .returned (.tuple #[]) ∧ w' = w := by
  go_enter Yba.func15, Yba.ntmps15
  go_wp2_with (go_at_call 16; refine (c_load _ _ _ h15).mono ?_; rintro e w' ⟨rfl, rfl⟩)
  go_end0
  exact ⟨rfl, rfl⟩

/-- countFired(false), a wake to come: one more fired, one more busy. -/
theorem c_count_one (b : Nat) (x f : Int) (w : World) (h15 : w.cell? ⟨b, 15, none⟩ = some (.int .u64 x)) (hx : (x != 18446744073709551615) = true)
    (h16 : w.cell? ⟨b, 16, none⟩ = some (.int .i64 f)) (f16 : w.frozen? ⟨b, 16, none⟩ = false)
    (h5 : w.cell? ⟨b, 5, none⟩ = some (.int .u64 0)) (h6 : w.cell? ⟨b, 6, none⟩ = some (.int .u32 0)) (f5 : w.frozen? ⟨b, 5, none⟩ = false) :
    Calls Yba.prog 15 #[.pointer (some ⟨b, 0, none⟩), .bool false] w fun e w' => e = .returned (.tuple #[]) ∧
      w' = (w.setCell ⟨b, 16, none⟩ (.int .i64 (wrap64 (f + 1)))).setCell ⟨b, 5, none⟩ (.int .u64 4294967296) := by
  have g5 : (w.setCell ⟨b, 16, none⟩ (.int .i64 (wrap64 (f + 1)))).cell? ⟨b, 5, none⟩ = some (.int .u64 0) := by simp [go_sem, h5]
  have g6 : (w.setCell ⟨b, 16, none⟩ (.int .i64 (wrap64 (f + 1)))).cell? ⟨b, 6, none⟩ = some (.int .u32 0) := by simp [go_sem, h6]
  have k5 : (w.setCell ⟨b, 16, none⟩ (.int .i64 (wrap64 (f + 1)))).frozen? ⟨b, 5, none⟩ = false := by simp [f5]
  go_enter Yba.func15, Yba.ntmps15
  go_wp2_with (first
    | (go_at_call 16; refine (c_load _ _ _ h15).mono ?_; rintro e w' ⟨rfl, rfl⟩)
    | (go_at_call 19; refine (c_add b _ g5 g6 k5).mono ?_; rintro e w' ⟨rfl, rfl⟩))
  go_end0
  exact ⟨rfl, rfl⟩
end Go.Proofs.Ybulkafty
