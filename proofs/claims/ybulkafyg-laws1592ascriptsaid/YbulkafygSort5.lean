/-
  stable, SortStableFunc: walked.
-/
import Derived.Test.YbulkafygSort4
namespace Go.Proofs.Ybulkafyg
open Go.RowKit

/-- the blocks of s labels that start from L on are sorted, as far as R -/
def Blk (g : Nat → Lab) (s L R : Nat) : Prop := ∀ i x y, L ≤ i * s → i * s ≤ x → x < y → y < i * s + s → y < R → leB (g x) (g y)

theorem blk_step {g g' : Nat → Lab} {s a c k n : Nat} (hk : a = k * s) (lo : Blk g s 0 a) (h : Srt g g' a c n) (hc : c ≤ a + s) : Blk g' s 0 c := by
  intro i x y _ h1 h2 h3 h4
  rcases Nat.lt_trichotomy i k with e | e | e
  · have : (i + 1) * s ≤ k * s := Nat.mul_le_mul_right _ e
    rw [Nat.succ_mul] at this
    rw [h.out x (by omega), h.out y (by omega)]
    exact lo i x y (by omega) h1 h2 h3 (by omega)
  · subst e
    exact h.sorted x y (by omega) h2 h4
  · have : (k + 1) * s ≤ i * s := Nat.mul_le_mul_right _ e
    rw [Nat.succ_mul] at this
    omega
theorem Blk.rest {g g' : Nat → Lab} {s a c n : Nat} (hi : Blk g s a n) (h : Srt g g' a c n) (hac : a ≤ c) : Blk g' s c n := by
  intro i x y h0 h1 h2 h3 h4
  rw [h.out x (by omega), h.out y (by omega)]
  exact hi i x y (by omega) h1 h2 h3 h4
theorem Blk.first {g : Nat → Lab} {s a k n c : Nat} (hk : a = k * (2 * s)) (hi : Blk g s a n) (hc : c ≤ a + s) (hn : c ≤ n) : SortedOn g a c := by
  intro x y h1 h2 h3
  have e : 2 * k * s = a := by rw [hk, Nat.mul_comm 2 k, Nat.mul_assoc]
  exact hi (2 * k) x y (by omega) (by omega) h2 (by omega) (by omega)
theorem Blk.second {g : Nat → Lab} {s a k n c : Nat} (hk : a = k * (2 * s)) (hi : Blk g s a n) (hc : c ≤ a + 2 * s) (hn : c ≤ n) : SortedOn g (a + s) c := by
  intro x y h1 h2 h3
  have e : 2 * k * s = a := by rw [hk, Nat.mul_comm 2 k, Nat.mul_assoc]
  have e2 : (2 * k + 1) * s = a + s := by rw [Nat.succ_mul, e]
  exact hi (2 * k + 1) x y (by omega) (by omega) h2 (by omega) (by omega)
theorem Blk.whole {g : Nat → Lab} {s n : Nat} (h : Blk g s 0 n) (hn : n ≤ s) : SortedOn g 0 n := fun x y _ h2 h3 => h 0 x y (by omega) (by omega) h2 (by omega) h3
theorem Blk.full {g : Nat → Lab} {s n : Nat} (h : Blk g s 0 n) : Blk g s 0 n := h
theorem Blk.nil {g : Nat → Lab} {s : Nat} : Blk g s 0 0 := fun _ _ _ _ _ _ _ h => by omega

set_option maxRecDepth 100000 in
set_option maxHeartbeats 400000 in
theorem s_stable (C b n cap : Nat) (f : Nat → Lab) (w : World) (h : LRow w b cap f) (hn : n ≤ cap) (hcap : cap ≤ 1000000) :
    Calls Yba.prog 24 #[.slice (some ⟨b, 0, none⟩) n C, .int .i64 n, cmpV] w fun e w' => e = .returned (.tuple #[]) ∧ ∃ g, LRow w' b cap g ∧ SortedOn g 0 n ∧ KF f g n ∧ Chg w w' (fun j => j = b) := by
  go_enter Yba.func24, Yba.ntmps24
  go_wp2
  go_loopw [7, 8] (fun i j wr => ∃ (k a B : Nat) (g : Nat → Lab), Hid (a = k * 20) ∧ Hid (B = a + 20) ∧ a ≤ n ∧ i = .int .i64 a ∧ j = .int .i64 B ∧ LRow wr b cap g ∧ Blk g 20 0 a ∧ KF f g n ∧ Chg w wr (fun j => j = b)) (fun i _ _ => n - (intOf i).toNat)
  case atStart => exact ⟨0, 0, 20, f, rfl, rfl, by omega, rfl, rfl, h, Blk.nil, KF.refl _ _, Chg.refl _ _⟩
  case round =>
    obtain ⟨k, a, B, g, hk, hB, han, rfl, rfl, hr, hb, hkf, hc⟩ := hrel
    clear h
    have hB1 : B ≤ a + 20 := Nat.le_of_eq hB.out
    have hB2 : a + 20 ≤ B := Nat.le_of_eq hB.out.symm
    by_cases hlt : B ≤ n
    · have hd : decide ((B : Int) ≤ (n : Int)) = true := by simp; omega
      go_wp2_with fail
      refine (s_insertion C b n cap a B g wr hr hn hcap (by omega) hlt).mono ?_
      rintro e w1 ⟨rfl, g1, hr1, hs1, hc1⟩
      go_wp2
      go_roundw
      case rel => exact ⟨k + 1, B, B + 20, g1, by have := hk.out; exact (show B = (k + 1) * 20 by omega), rfl, hlt, rfl, by go_num, hr1, blk_step hk.out hb hs1 hB1, hkf.trans hs1.kf, hc.trans hc1 (fun _ e => .inl e)⟩
      case measure => simp [intOf]; omega
    · have hd : decide ((B : Int) ≤ (n : Int)) = false := by simp; omega
      go_wp2_with fail
      refine (s_insertion C b n cap a n g wr hr hn hcap han (Nat.le_refl _)).mono ?_
      rintro e w1 ⟨rfl, g1, hr1, hs1, hc1⟩
      have hb1 := blk_step hk.out hb hs1 (by omega)
      have hkf1 := hkf.trans hs1.kf
      have hcc1 : Chg w w1 (fun j => j = b) := hc.trans hc1 (fun _ e => .inl e)
      clear hr hb hs1 hkf hc hc1 hk hB hB1 hB2 hd hlt han
      rename World => w2
      go_wp2
      go_loopw [6, 7, 8, 9] (fun i _ _ _ wr => ∃ (s : Nat) (g : Nat → Lab), 20 ≤ s ∧ s ≤ 2000000 ∧ i = .int .i64 s ∧ LRow wr b cap g ∧ Blk g s 0 n ∧ KF f g n ∧ Chg w wr (fun j => j = b)) (fun i _ _ _ _ => n - (intOf i).toNat)
      case atStart => exact ⟨20, g1, by omega, by omega, rfl, hr1, hb1, hkf1, hcc1⟩
      case round =>
        clear hr1 hb1 hkf1 hcc1
        obtain ⟨s, g, hs20, hsM, rfl, hr, hb, hkf, hc⟩ := hrel
        by_cases hlt : s < n
        · have hd : decide ((s : Int) < (n : Int)) = true := by simp; omega
          rename World => w3
          go_wp2
          rw [show (2 * (s : Int)) = ((2 * s : Nat) : Int) by omega]
          generalize hS : 2 * s = S
          have hS1 : S ≤ 2 * s := by omega
          have hS2 : 2 * s ≤ S := by omega
          have HS : Hid (S = 2 * s) := hS.symm
          clear hS
          go_loopw [7, 8] (fun i j wr => ∃ (k a B : Nat) (g : Nat → Lab), Hid (a = k * (2 * s)) ∧ a ≤ n ∧ B ≤ a + 2 * s ∧ a + 2 * s ≤ B ∧ i = .int .i64 a ∧ j = .int .i64 B ∧ LRow wr b cap g ∧ Blk g (2 * s) 0 a ∧ Blk g s a n ∧ KF f g n ∧ Chg w wr (fun j => j = b)) (fun i _ _ => n - (intOf i).toNat)
          case atStart => exact ⟨0, 0, S, g, (show 0 = 0 * (2 * s) by omega), by omega, by omega, by omega, rfl, rfl, hr, Blk.nil, hb, hkf, hc⟩
          case round =>
            clear hr hb hkf hc
            obtain ⟨k, a, B, g, hk, han, hB1, hB2, rfl, rfl, hr, hlo, hhi, hkf, hc⟩ := hrel
            by_cases hlB : B ≤ n
            · have hd2 : decide ((B : Int) ≤ (n : Int)) = true := by simp; omega
              go_wp2_with fail
              rw [show ((a : Int) + (s : Int)) = ((a + s : Nat) : Int) by omega]
              refine (s_symMerge C b n cap a (a + s) B g wr hr hn hcap (by omega) (by omega) hlB (hhi.first hk.out (by omega) (by omega)) (hhi.second hk.out (by omega) hlB)).mono ?_
              rintro e w1 ⟨rfl, g1, hr1, hs1, hc1⟩
              go_wp2
              go_roundw
              case rel => exact ⟨k + 1, B, B + 2 * s, g1, by have := hk.out; exact (show B = (k + 1) * (2 * s) by rw [Nat.succ_mul]; omega), hlB, by omega, by omega, rfl, by go_num, hr1, blk_step hk.out hlo hs1 hB1, hhi.rest hs1 (by omega), hkf.trans hs1.kf, hc.trans hc1 (fun _ e => .inl e)⟩
              case measure => simp [intOf]; omega
            · have hd2 : decide ((B : Int) ≤ (n : Int)) = false := by simp; omega
              by_cases hms : a + s < n
              · have hd3 : decide ((a : Int) + (s : Int) < (n : Int)) = true := by simp; omega
                go_wp2_with fail
                rw [show ((a : Int) + (s : Int)) = ((a + s : Nat) : Int) by omega]
                refine (s_symMerge C b n cap a (a + s) n g wr hr hn hcap (by omega) hms (Nat.le_refl _) (hhi.first hk.out (by omega) (by omega)) (hhi.second hk.out (by omega) (Nat.le_refl _))).mono ?_
                rintro e w1 ⟨rfl, g1, hr1, hs1, hc1⟩
                go_wp2
                go_roundw
                case rel => exact ⟨2 * s, g1, by omega, by omega, by go_num, hr1, blk_step hk.out hlo hs1 (by omega), hkf.trans hs1.kf, hc.trans hc1 (fun _ e => .inl e)⟩
                case measure => simp [intOf]; omega
              · have hd3 : decide ((a : Int) + (s : Int) < (n : Int)) = false := by simp; omega
                have hb2 := blk_step hk.out hlo (Srt.same (n := n) (hhi.first hk.out (show n ≤ a + s by omega) (Nat.le_refl _))) (by omega)
                go_wp2
                go_roundw
                case rel => exact ⟨2 * s, g, by omega, by omega, by go_num, hr, hb2, hkf, hc⟩
                case measure => simp [intOf]; omega
        · have hd : decide ((s : Int) < (n : Int)) = false := by simp; omega
          have hfin := hb.whole (by omega)
          go_wp2
          go_end0
          exact ⟨rfl, g, hr, hfin, hkf, hc⟩

theorem s_sortStable (C b n cap : Nat) (f : Nat → Lab) (w : World) (h : LRow w b cap f) (hn : n ≤ cap) (hcap : cap ≤ 1000000) :
    Calls Yba.prog 21 #[.slice (some ⟨b, 0, none⟩) n C, cmpV] w fun e w' => e = .returned (.tuple #[]) ∧ ∃ g, LRow w' b cap g ∧ SortedOn g 0 n ∧ KF f g n ∧ Chg w w' (fun j => j = b) := by
  go_enter Yba.func21, Yba.ntmps21
  go_wp2_with fail
  refine (s_stable C b n cap f w h hn hcap).mono ?_
  rintro e w1 ⟨rfl, g1, hr1, hs1, hk1, hc1⟩
  go_wp2
  go_end0
  exact ⟨rfl, g1, hr1, hs1, hk1, hc1⟩
end Go.Proofs.Ybulkafyg
