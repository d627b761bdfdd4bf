/-
  swapRange, rotate: walked.
-/
import Derived.Test.YbulkafygRow
namespace Go.Proofs.Ybulkafyg
open Go.RowKit

set_option maxRecDepth 100000 in
set_option maxHeartbeats 400000 in
theorem s_swapRange (C b n cap x y k : Nat) (f : Nat → Lab) (v : Value) (w : World) (h : LRow w b cap f) (hn : n ≤ cap) (hcap : cap ≤ 1000000) (h1 : x + k ≤ y) (h2 : y + k ≤ n) :
    Calls Yba.prog 30 #[.slice (some ⟨b, 0, none⟩) n C, .int .i64 x, .int .i64 y, .int .i64 k, v] w fun e w' => e = .returned (.tuple #[]) ∧ LRow w' b cap (swpF f x y k) ∧ Chg w w' (fun j => j = b) := by
  go_enter Yba.func30, Yba.ntmps30
  go_wp2
  go_loopw [10] (fun i wr => ∃ j : Nat, j ≤ k ∧ i = .int .i64 j ∧ LRow wr b cap (swpF f x y j) ∧ Chg w wr (fun j => j = b)) (fun i _ => k - (intOf i).toNat)
  case atStart => exact ⟨0, Nat.zero_le _, rfl, by rw [swpF_zero]; exact h, Chg.refl _ _⟩
  case round =>
    obtain ⟨j, hj, rfl, hr, hc⟩ := hrel
    by_cases hlt : j < k
    · have a0 := hr.cell0 (k := x + j) (by omega)
      have a1 := hr.cell1 (k := x + j) (by omega)
      have b0 := hr.cell0 (k := y + j) (by omega)
      have b1 := hr.cell1 (k := y + j) (by omega)
      have f0 := hr.free ((x + j) * 2)
      have f1 := hr.free ((x + j) * 2 + 1)
      have f2 := hr.free ((y + j) * 2)
      have f3 := hr.free ((y + j) * 2 + 1)
      have hs := hr.swap (i := x + j) (j := y + j) (by omega) (by omega)
      rw [swpF_step f x y j (by omega)] at hs
      clear h hr
      go_wp2
      go_region
      all_goals
        go_wp2
        go_roundw
        case rel => exact ⟨j + 1, by omega, by go_num, hs.drew, (hc.trans chg_swap (fun _ e => .inl e)).drew⟩
        case measure => simp [intOf]; omega
    · obtain rfl : j = k := by omega
      clear h
      go_wp2
      go_end0
      exact ⟨rfl, hr, hc⟩

set_option maxRecDepth 100000 in
set_option maxHeartbeats 400000 in
theorem s_rotate (C b n cap x m y : Nat) (f : Nat → Lab) (v : Value) (w : World) (h : LRow w b cap f) (hn : n ≤ cap) (hcap : cap ≤ 1000000) (h1 : x < m) (h2 : m < y) (h3 : y ≤ n) :
    Calls Yba.prog 29 #[.slice (some ⟨b, 0, none⟩) n C, .int .i64 x, .int .i64 m, .int .i64 y, v] w fun e w' => e = .returned (.tuple #[]) ∧ LRow w' b cap (rotF f x m y) ∧ Chg w w' (fun j => j = b) := by
  go_enter Yba.func29, Yba.ntmps29
  go_wp2
  go_loopw [10, 11] (fun i j wr => ∃ (p q : Nat) (g : Nat → Lab), 0 < p ∧ 0 < q ∧ p ≤ m ∧ m + q ≤ n ∧ i = .int .i64 p ∧ j = .int .i64 q ∧ LRow wr b cap g ∧ rotF g (m - p) m (m + q) = rotF f x m y ∧ Chg w wr (fun j => j = b)) (fun i j _ => (intOf i + intOf j).toNat)
  case atStart => exact ⟨m - x, y - m, f, by omega, by omega, by omega, by omega, by go_num, by go_num, h, by rw [show m - (m - x) = x by omega, show m + (y - m) = y by omega], Chg.refl _ _⟩
  case round =>
    obtain ⟨p, q, g, hp, hq, hpm, hqn, rfl, rfl, hr, he, hc⟩ := hrel
    have HE : Hid (rotF g (m - p) m (m + q) = rotF f x m y) := he
    clear he
    rcases Nat.lt_trichotomy p q with hlt | rfl | hgt
    · have hne : ((p : Int) != (q : Int)) = true := by simp; omega
      have hd : decide ((q : Int) < (p : Int)) = false := by simp; omega
      go_wp2_with fail
      rw [show ((m : Int) - (p : Int)) = ((m - p : Nat) : Int) by omega, show ((m : Int) + (q : Int) - (p : Int)) = ((m + q - p : Nat) : Int) by omega]
      refine (s_swapRange C b n cap (m - p) (m + q - p) p g v wr hr hn hcap (by omega) (by omega)).mono ?_
      rintro e w1 ⟨rfl, hr1, hc1⟩
      clear hr
      go_wp2
      go_roundw
      case rel => exact ⟨p, q - p, _, hp, by omega, hpm, by omega, rfl, by go_num, hr1, by rw [rot_step_lt g m p q hpm hp hlt]; exact HE.out, hc.trans hc1 (fun _ e => .inl e)⟩
      case measure => simp [intOf]; omega
    · have hne : ((p : Int) != (p : Int)) = false := by simp
      go_wp2_with fail
      rw [show ((m : Int) - (p : Int)) = ((m - p : Nat) : Int) by omega]
      refine (s_swapRange C b n cap (m - p) m p g v wr hr hn hcap (by omega) (by omega)).mono ?_
      rintro e w1 ⟨rfl, hr1, hc1⟩
      clear hr
      rw [rot_last g m p hpm, HE.out] at hr1
      go_wp2
      go_end0
      exact ⟨rfl, hr1, hc.trans hc1 (fun _ e => .inl e)⟩
    · have hne : ((p : Int) != (q : Int)) = true := by simp; omega
      have hd : decide ((q : Int) < (p : Int)) = true := by simp; omega
      go_wp2_with fail
      rw [show ((m : Int) - (p : Int)) = ((m - p : Nat) : Int) by omega]
      refine (s_swapRange C b n cap (m - p) m q g v wr hr hn hcap (by omega) (by omega)).mono ?_
      rintro e w1 ⟨rfl, hr1, hc1⟩
      clear hr
      go_wp2
      go_roundw
      case rel => exact ⟨p - q, q, _, by omega, hq, by omega, hqn, by go_num, rfl, hr1, by rw [rot_step_gt g m p q hpm hq hgt]; exact HE.out, hc.trans hc1 (fun _ e => .inl e)⟩
      case measure => simp [intOf]; omega
end Go.Proofs.Ybulkafyg
