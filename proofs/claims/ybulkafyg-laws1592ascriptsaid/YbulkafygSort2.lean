/-
  insertionSort: walked.
-/
import Derived.Test.YbulkafygSort1
import Derived.Deep.RegionHeld3
namespace Go.Proofs.Ybulkafyg
open Go.RowKit

/-- the comparing function as a value -/
abbrev cmpV : Value := .func (.func 22) #[] #[]

theorem Chg.drewN {w w' : World} {S : Nat → Prop} (h : Chg w w' S) (n : Nat) : Chg w (w'.drewN n) S := ⟨h.os, h.tape, h.output, h.size, h.block⟩
theorem LRow.drewN {w : World} {b cap : Nat} {f : Nat → Lab} (h : LRow w b cap f) (n : Nat) : LRow (w.drewN n) b cap f := h
theorem cmp_pos {x y : Lab} (h : ltB (key x) (key y) = true) : decide (Lib.compareBytes x.1.data.toList y.1.data.toList < 0) = true := by
  have := (cmp_lt x.1.data.toList y.1.data.toList).2 (by unfold key at h; rwa [Lib.toList_data, Lib.toList_data] at h)
  simpa using this
theorem cmp_neg {x y : Lab} (h : ltB (key x) (key y) = false) : decide (Lib.compareBytes x.1.data.toList y.1.data.toList < 0) = false := by
  have : ¬ Lib.compareBytes x.1.data.toList y.1.data.toList < 0 := by
    rw [cmp_lt, ← Lib.toList_data, ← Lib.toList_data]
    unfold key at h
    simp [h]
  simpa using this

set_option maxRecDepth 100000 in
set_option maxHeartbeats 400000 in
theorem s_insertion (C b n cap x y : Nat) (f : Nat → Lab) (w : World) (h : LRow w b cap f) (hn : n ≤ cap) (hcap : cap ≤ 1000000) (h1 : x ≤ y) (h2 : y ≤ n) :
    Calls Yba.prog 26 #[.slice (some ⟨b, 0, none⟩) n C, .int .i64 x, .int .i64 y, cmpV] w fun e w' => e = .returned (.tuple #[]) ∧ ∃ g, LRow w' b cap g ∧ Srt f g x y n ∧ Chg w w' (fun j => j = b) := by
  go_enter Yba.func26, Yba.ntmps26
  go_wp2
  go_loopw [8] (fun i wr => ∃ (p : Nat) (g : Nat → Lab), x < p ∧ (p ≤ y ∨ p = x + 1) ∧ i = .int .i64 p ∧ LRow wr b cap g ∧ Srt f g x p n ∧ Chg w wr (fun j => j = b)) (fun i _ => y - (intOf i).toNat)
  case atStart => exact ⟨x + 1, f, by omega, by omega, by go_num, h, Srt.same (fun i j a1 a2 a3 => by omega), Chg.refl _ _⟩
  case round =>
    obtain ⟨p, g, hxp, hpy, rfl, hr, hs, hc⟩ := hrel
    by_cases hlt : p < y
    · rename World => w2
      go_wp2
      go_loopw [9] (fun j wr => ∃ (q : Nat) (g2 : Nat → Lab), x ≤ q ∧ q ≤ p ∧ j = .int .i64 q ∧ LRow wr b cap g2 ∧ Ins g g2 x p q n ∧ Chg w2 wr (fun j => j = b)) (fun j _ => (intOf j).toNat)
      case atStart => exact ⟨p, g, by omega, Nat.le_refl _, rfl, hr, ins_start hs.sorted, Chg.refl _ _⟩
      case round =>
        obtain ⟨q, g2, hxq, hqp, rfl, hr2, hi2, hc2⟩ := hrel
        rcases Nat.lt_or_ge x q with hxq' | hqx
        · have hd : decide ((x : Int) < (q : Int)) = true := by simp; omega
          have a0 := hr2.cell0 (k := q) (by omega)
          have a1 := hr2.cell1 (k := q) (by omega)
          have b0 := hr2.cell0 (k := q - 1) (by omega)
          have b1 := hr2.cell1 (k := q - 1) (by omega)
          have i1 : (0 : Int) ≤ (q : Int) := by omega
          have i2 : (q : Int) < (n : Int) := by omega
          have i3 : (1 : Int) ≤ (q : Int) := by omega
          have i7 : ¬ (q : Int) < 1 := by omega
          have i8 : (q : Int) ≤ (n : Int) := by omega
          have i9 : (q : Int) < (n : Int) + 1 := by omega
          have i4 : (q : Int) - 1 < (n : Int) := by omega
          have i5 : IntKind.i64.wrap ((q : Int) - 1) = (q : Int) - 1 := by rw [IntKind.wrap_i64]; omega
          have i6 : ((q : Int) - 1).toNat = q - 1 := by omega
          have i10 : decide ((q : Int) - 1 < 0) = false := by simp; omega
          have i11 : decide ((n : Int) ≤ (q : Int) - 1) = false := by simp; omega
          have i12 : ¬ (n : Int) ≤ (q : Int) - 1 := by omega
          have hr3 : LRow ((wr.alloc (.cells #[.string (g2 q).1, .string (g2 q).2] 58)).alloc (.cells #[.string (g2 (q - 1)).1, .string (g2 (q - 1)).2] 58)).drew b cap g2 := ((hr2.alloc _).alloc _).drew
          have hc3 : Chg w2 ((wr.alloc (.cells #[.string (g2 q).1, .string (g2 q).2] 58)).alloc (.cells #[.string (g2 (q - 1)).1, .string (g2 (q - 1)).2] 58)).drew (fun j => j = b) := ((hc2.alloc _).alloc _).drew
          cases hcmp : ltB (key (g2 q)) (key (g2 (q - 1))) with
          | true =>
            have hcd := cmp_pos hcmp
            go_wp2
            go_region_held3 (fun w' => w'.cell? ⟨b, q * 2, none⟩ = some (.string (g2 q).1) ∧ w'.cell? ⟨b, q * 2 + 1, none⟩ = some (.string (g2 q).2) ∧ w'.cell? ⟨b, (q - 1) * 2, none⟩ = some (.string (g2 (q - 1)).1) ∧ w'.cell? ⟨b, (q - 1) * 2 + 1, none⟩ = some (.string (g2 (q - 1)).2)) (go_keep) (first | (go_at_call 22; refine (c_cmp (g2 q) (g2 (q - 1)) _).mono ?_; rintro e w' ⟨rfl, rfl⟩))
            clear a0 a1 b0 b1 hr2 hc2
            generalize ((wr.alloc (.cells #[.string (g2 q).1, .string (g2 q).2] 58)).alloc (.cells #[.string (g2 (q - 1)).1, .string (g2 (q - 1)).2] 58)).drew = w3 at hr3 hc3 ⊢
            have a0 := hr3.cell0 (k := q) (by omega)
            have a1 := hr3.cell1 (k := q) (by omega)
            have b0 := hr3.cell0 (k := q - 1) (by omega)
            have b1 := hr3.cell1 (k := q - 1) (by omega)
            have f0 := hr3.free (q * 2)
            have f1 := hr3.free (q * 2 + 1)
            have f2 := hr3.free ((q - 1) * 2)
            have f3 := hr3.free ((q - 1) * 2 + 1)
            have hs3 := hr3.swap (i := q) (j := q - 1) (by omega) (by omega)
            have hi3 := ins_step hi2 hxq' hqp (by omega) hcmp
            clear hr3 h hr
            go_wp2
            go_region
            all_goals
              go_wp2
              go_roundw
              case rel => exact ⟨q - 1, _, by omega, by omega, by go_num, hs3.drew, hi3, (hc3.trans chg_swap (fun _ e => .inl e)).drew⟩
              case measure => simp [intOf]; omega
          | false =>
            have hcd := cmp_neg hcmp
            go_wp2
            go_region_held3 (fun w' => w'.cell? ⟨b, q * 2, none⟩ = some (.string (g2 q).1) ∧ w'.cell? ⟨b, q * 2 + 1, none⟩ = some (.string (g2 q).2) ∧ w'.cell? ⟨b, (q - 1) * 2, none⟩ = some (.string (g2 (q - 1)).1) ∧ w'.cell? ⟨b, (q - 1) * 2 + 1, none⟩ = some (.string (g2 (q - 1)).2)) (go_keep) (first | (go_at_call 22; refine (c_cmp (g2 q) (g2 (q - 1)) _).mono ?_; rintro e w' ⟨rfl, rfl⟩))
            clear a0 a1 b0 b1 hr2 hc2
            generalize ((wr.alloc (.cells #[.string (g2 q).1, .string (g2 q).2] 58)).alloc (.cells #[.string (g2 (q - 1)).1, .string (g2 (q - 1)).2] 58)).drew = w3 at hr3 hc3 ⊢
            have hi3 := hs.snoc (ins_done hi2 hxq hqp (fun _ => hcmp))
            clear h hr
            go_wp2
            go_roundw
            case rel => exact ⟨p + 1, g2, by omega, by omega, by go_num, hr3, hi3, hc.trans hc3 (fun _ e => .inl e)⟩
            case measure => simp [intOf]; omega
        · obtain rfl : q = x := by omega
          have hd : decide ((q : Int) < (q : Int)) = false := by simp
          have hi3 := hs.snoc (ins_done hi2 hxq hqp (fun e => by omega))
          clear h hr
          go_wp2
          go_quiet (fail)
          go_wp2
          go_roundw
          case rel => exact ⟨p + 1, g2, by omega, by omega, by go_num, hr2.drewN _, hi3, (hc.trans hc2 (fun _ e => .inl e)).drewN _⟩
          case measure => simp [intOf]; omega
    · clear h
      have hd : decide ((p : Int) < (y : Int)) = false := by simp; omega
      go_wp2
      go_end0
      refine ⟨rfl, g, hr, ?_, hc⟩
      rcases hpy with hpy | hpy
      · obtain rfl : p = y := by omega
        exact hs
      · rcases Nat.lt_or_ge x y with e | e
        · obtain rfl : p = y := by omega
          exact hs
        · obtain rfl : x = y := by omega
          subst hpy
          refine ⟨fun i j a1 a2 a3 => by omega, hs.kf, fun z hz => ?_, fun z z1 z2 => by omega⟩
          by_cases ez : z = x
          · obtain ⟨y', y1, y2, e'⟩ := hs.src z (by omega) (by omega)
            rw [e']; congr 1; omega
          · exact hs.out z (by omega)
end Go.Proofs.Ybulkafyg
