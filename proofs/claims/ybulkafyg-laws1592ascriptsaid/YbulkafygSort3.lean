/-
  symMerge: walked, first the two short cases.
-/
import Derived.Test.YbulkafygSort2
namespace Go.Proofs.Ybulkafyg
open Go.RowKit

/-- the place in the middle -/
def midN (i j : Nat) : Nat := (i + j) / 2
theorem midN_lt {i j : Nat} (h : i < j) : i ≤ midN i j ∧ midN i j < j := by unfold midN; omega

/-- the first search: labels below i are below the label at a, those from j on are not -/
structure Sch1 (f : Nat → Lab) (a b i j : Nat) : Prop where
  lo : ∀ h, a + 1 ≤ h → h < i → ltB (key (f h)) (key (f a)) = true
  hi : ∀ h, j ≤ h → h < b → leB (f a) (f h)
theorem Sch1.up {f : Nat → Lab} {a b i j h : Nat} (hs : SortedOn f (a + 1) b) (hb : h < b) (s : Sch1 f a b i j) (e : ltB (key (f h)) (key (f a)) = true) : Sch1 f a b (h + 1) j :=
  ⟨fun _ x1 x2 => lt_of_le_lt (hs.le x1 (by omega) hb) e, s.hi⟩
theorem Sch1.down {f : Nat → Lab} {a b i j h : Nat} (hs : SortedOn f (a + 1) b) (ha : a + 1 ≤ h) (s : Sch1 f a b i j) (e : ltB (key (f h)) (key (f a)) = false) : Sch1 f a b i h :=
  ⟨s.lo, fun _ x1 x2 => leB_trans e (hs.le ha x1 x2)⟩

set_option maxRecDepth 100000 in
set_option maxHeartbeats 400000 in
theorem s_sym1 (C b n cap x m y : Nat) (f : Nat → Lab) (w : World) (h : LRow w b cap f) (hn : n ≤ cap) (hcap : cap ≤ 1000000) (hm1 : m ≤ x + 1) (hm2 : x < m) (h1 : m < y) (h2 : y ≤ n) (hs : SortedOn f (x + 1) y) :
    Calls Yba.prog 27 #[.slice (some ⟨b, 0, none⟩) n C, .int .i64 x, .int .i64 m, .int .i64 y, cmpV] w fun e w' => e = .returned (.tuple #[]) ∧ ∃ g, LRow w' b cap g ∧ Srt f g x y n ∧ Chg w w' (fun j => j = b) := by
  go_enter Yba.func27, Yba.ntmps27
  have hd : ((m : Int) - (x : Int) == 1) = true := by simp; omega
  go_wp2
  go_loopw [10, 11, 12] (fun i j _ wr => ∃ p q : Nat, x + 1 ≤ p ∧ p ≤ q ∧ q ≤ y ∧ i = .int .i64 p ∧ j = .int .i64 q ∧ LRow wr b cap f ∧ Sch1 f x y p q ∧ Chg w wr (fun j => j = b)) (fun i j _ _ => (intOf j).toNat - (intOf i).toNat)
  case atStart => exact ⟨m, y, by omega, by omega, by omega, rfl, rfl, h, ⟨fun _ _ _ => by omega, fun _ _ _ => by omega⟩, Chg.refl _ _⟩
  case round =>
    obtain ⟨p, q, hp, hpq, hq, rfl, rfl, hr, hi, hc⟩ := hrel
    by_cases hlt : p < q
    · have hm := midN_lt hlt
      obtain ⟨c, hcc⟩ : ∃ c, c = midN p q := ⟨_, rfl⟩
      rw [← hcc] at hm
      go_wp2
      rw [show ((p : Int) + (q : Int)) / 2 = (c : Int) by rw [hcc]; unfold midN; omega]
      clear hcc h
      have a0 := hr.cell0 (k := c) (by omega)
      have a1 := hr.cell1 (k := c) (by omega)
      have b0 := hr.cell0 (k := x) (by omega)
      have b1 := hr.cell1 (k := x) (by omega)
      have i1 : (0 : Int) ≤ (c : Int) := by omega
      have i2 : (c : Int) < (n : Int) := by omega
      have i3 : (0 : Int) ≤ (x : Int) := by omega
      have i4 : (x : Int) < (n : Int) := by omega
      have hr3 : LRow ((wr.alloc (.cells #[.string (f c).1, .string (f c).2] 58)).alloc (.cells #[.string (f x).1, .string (f x).2] 58)).drew b cap f := ((hr.alloc _).alloc _).drew
      have hc3 : Chg w ((wr.alloc (.cells #[.string (f c).1, .string (f c).2] 58)).alloc (.cells #[.string (f x).1, .string (f x).2] 58)).drew (fun j => j = b) := ((hc.alloc _).alloc _).drew
      cases hcmp : ltB (key (f c)) (key (f x)) with
      | true =>
        have hcd := cmp_pos hcmp
        go_region_held3 (fun w' => w'.cell? ⟨b, c * 2, none⟩ = some (.string (f c).1) ∧ w'.cell? ⟨b, c * 2 + 1, none⟩ = some (.string (f c).2) ∧ w'.cell? ⟨b, x * 2, none⟩ = some (.string (f x).1) ∧ w'.cell? ⟨b, x * 2 + 1, none⟩ = some (.string (f x).2)) (go_keep) (first | (go_at_call 22; refine (c_cmp (f c) (f x) _).mono ?_; rintro e w' ⟨rfl, rfl⟩))
        clear a0 a1 b0 b1 hr hc
        generalize ((wr.alloc (.cells #[.string (f c).1, .string (f c).2] 58)).alloc (.cells #[.string (f x).1, .string (f x).2] 58)).drew = w3 at hr3 hc3 ⊢
        go_wp2
        go_roundw
        case rel => exact ⟨c + 1, q, by omega, by omega, hq, by go_num, rfl, hr3, hi.up hs (by omega) hcmp, hc3⟩
        case measure => simp [intOf]; omega
      | false =>
        have hcd := cmp_neg hcmp
        go_region_held3 (fun w' => w'.cell? ⟨b, c * 2, none⟩ = some (.string (f c).1) ∧ w'.cell? ⟨b, c * 2 + 1, none⟩ = some (.string (f c).2) ∧ w'.cell? ⟨b, x * 2, none⟩ = some (.string (f x).1) ∧ w'.cell? ⟨b, x * 2 + 1, none⟩ = some (.string (f x).2)) (go_keep) (first | (go_at_call 22; refine (c_cmp (f c) (f x) _).mono ?_; rintro e w' ⟨rfl, rfl⟩))
        clear a0 a1 b0 b1 hr hc
        generalize ((wr.alloc (.cells #[.string (f c).1, .string (f c).2] 58)).alloc (.cells #[.string (f x).1, .string (f x).2] 58)).drew = w3 at hr3 hc3 ⊢
        go_wp2
        go_roundw
        case rel => exact ⟨p, c, by omega, by omega, by omega, rfl, rfl, hr3, hi.down hs (by omega) hcmp, hc3⟩
        case measure => simp [intOf]; omega
    · obtain rfl : p = q := by omega
      have hd2 : decide ((p : Int) < (p : Int)) = false := by simp
      have hfin := merge_one hs hp hq h2 hi.lo hi.hi
      clear h
      go_wp2
      rename World => w2
      go_loopw [13] (fun k wr => ∃ k' : Nat, x ≤ k' ∧ k' ≤ p - 1 ∧ k = .int .i64 k' ∧ LRow wr b cap (rotF f x (x + 1) (k' + 1)) ∧ Chg w wr (fun j => j = b)) (fun k _ => p - (intOf k).toNat)
      case atStart => exact ⟨x, by omega, by omega, rfl, by rw [rotF_nil]; exact hr, hc⟩
      case round =>
        obtain ⟨k, hxk, hkp, rfl, hrk, hck⟩ := hrel
        clear hr hc
        by_cases hk : k < p - 1
        · have hd3 : decide ((k : Int) < (p : Int) - 1) = true := by simp; omega
          generalize hF : rotF f x (x + 1) (k + 1) = F at hrk
          have a0 := hrk.cell0 (k := k) (by omega)
          have a1 := hrk.cell1 (k := k) (by omega)
          have b0 := hrk.cell0 (k := k + 1) (by omega)
          have b1 := hrk.cell1 (k := k + 1) (by omega)
          have f0 := hrk.free (k * 2)
          have f1 := hrk.free (k * 2 + 1)
          have f2 := hrk.free ((k + 1) * 2)
          have f3 := hrk.free ((k + 1) * 2 + 1)
          have hsw := hrk.swap (i := k) (j := k + 1) (by omega) (by omega)
          have hup : Hid (swp F k (k + 1) = rotF f x (x + 1) (k + 1 + 1)) := by rw [← hF]; exact rot_up f x k hxk
          clear hrk hF
          go_wp2
          go_region
          all_goals
            go_wp2
            go_roundw
            case rel => exact ⟨k + 1, by omega, by omega, by go_num, by rw [← hup.out]; exact hsw.drew, (hck.trans chg_swap (fun _ e => .inl e)).drew⟩
            case measure => simp [intOf]; omega
        · obtain rfl : k = p - 1 := by omega
          have hd3 : decide (((p - 1 : Nat) : Int) < (p : Int) - 1) = false := by simp; omega
          rw [show p - 1 + 1 = p by omega] at hrk
          go_wp2
          refine bodyPost_ret (results_none rfl _ _ _) rfl ?_
          exact ⟨rfl, _, hrk, hfin, hck⟩

/-- the second search: labels below i are not above the label at m, those from j on are -/
structure Sch2 (f : Nat → Lab) (a m i j : Nat) : Prop where
  lo : ∀ h, a ≤ h → h < i → leB (f h) (f m)
  hi : ∀ h, j ≤ h → h < m → ltB (key (f m)) (key (f h)) = true
theorem Sch2.up {f : Nat → Lab} {a m i j h : Nat} (hs : SortedOn f a m) (hb : h < m) (s : Sch2 f a m i j) (e : ltB (key (f m)) (key (f h)) = false) : Sch2 f a m (h + 1) j :=
  ⟨fun _ x1 x2 => leB_trans (hs.le x1 (by omega) hb) e, s.hi⟩
theorem Sch2.down {f : Nat → Lab} {a m i j h : Nat} (hs : SortedOn f a m) (ha : a ≤ h) (s : Sch2 f a m i j) (e : ltB (key (f m)) (key (f h)) = true) : Sch2 f a m i h :=
  ⟨s.lo, fun _ x1 x2 => lt_of_lt_le e (hs.le ha x1 x2)⟩

set_option maxRecDepth 100000 in
set_option maxHeartbeats 400000 in
theorem s_sym2 (C b n cap x m y : Nat) (f : Nat → Lab) (w : World) (h : LRow w b cap f) (hn : n ≤ cap) (hcap : cap ≤ 1000000) (hm1 : x + 1 < m) (hy1 : y ≤ m + 1) (hy2 : m < y) (h2 : y ≤ n) (hs : SortedOn f x m) :
    Calls Yba.prog 27 #[.slice (some ⟨b, 0, none⟩) n C, .int .i64 x, .int .i64 m, .int .i64 y, cmpV] w fun e w' => e = .returned (.tuple #[]) ∧ ∃ g, LRow w' b cap g ∧ Srt f g x (m + 1) n ∧ Chg w w' (fun j => j = b) := by
  go_enter Yba.func27, Yba.ntmps27
  have hd : ((m : Int) - (x : Int) == 1) = false := by simp; omega
  have hd1 : ((y : Int) - (m : Int) == 1) = true := by simp; omega
  go_wp2
  go_loopw [14, 15, 16] (fun i j _ wr => ∃ p q : Nat, x ≤ p ∧ p ≤ q ∧ q ≤ m ∧ i = .int .i64 p ∧ j = .int .i64 q ∧ LRow wr b cap f ∧ Sch2 f x m p q ∧ Chg w wr (fun j => j = b)) (fun i j _ _ => (intOf j).toNat - (intOf i).toNat)
  case atStart => exact ⟨x, m, by omega, by omega, by omega, rfl, rfl, h, ⟨fun _ _ _ => by omega, fun _ _ _ => by omega⟩, Chg.refl _ _⟩
  case round =>
    obtain ⟨p, q, hp, hpq, hq, rfl, rfl, hr, hi, hc⟩ := hrel
    by_cases hlt : p < q
    · have hm := midN_lt hlt
      obtain ⟨c, hcc⟩ : ∃ c, c = midN p q := ⟨_, rfl⟩
      rw [← hcc] at hm
      go_wp2
      rw [show ((p : Int) + (q : Int)) / 2 = (c : Int) by rw [hcc]; unfold midN; omega]
      clear hcc h
      have a0 := hr.cell0 (k := m) (by omega)
      have a1 := hr.cell1 (k := m) (by omega)
      have b0 := hr.cell0 (k := c) (by omega)
      have b1 := hr.cell1 (k := c) (by omega)
      have i1 : (0 : Int) ≤ (c : Int) := by omega
      have i2 : (c : Int) < (n : Int) := by omega
      have i3 : (0 : Int) ≤ (m : Int) := by omega
      have i4 : (m : Int) < (n : Int) := by omega
      have hr3 : LRow ((wr.alloc (.cells #[.string (f m).1, .string (f m).2] 58)).alloc (.cells #[.string (f c).1, .string (f c).2] 58)).drew b cap f := ((hr.alloc _).alloc _).drew
      have hc3 : Chg w ((wr.alloc (.cells #[.string (f m).1, .string (f m).2] 58)).alloc (.cells #[.string (f c).1, .string (f c).2] 58)).drew (fun j => j = b) := ((hc.alloc _).alloc _).drew
      cases hcmp : ltB (key (f m)) (key (f c)) with
      | true =>
        have hcd := cmp_pos hcmp
        go_region_held3 (fun w' => w'.cell? ⟨b, m * 2, none⟩ = some (.string (f m).1) ∧ w'.cell? ⟨b, m * 2 + 1, none⟩ = some (.string (f m).2) ∧ w'.cell? ⟨b, c * 2, none⟩ = some (.string (f c).1) ∧ w'.cell? ⟨b, c * 2 + 1, none⟩ = some (.string (f c).2)) (go_keep) (first | (go_at_call 22; refine (c_cmp (f m) (f c) _).mono ?_; rintro e w' ⟨rfl, rfl⟩))
        clear a0 a1 b0 b1 hr hc
        generalize ((wr.alloc (.cells #[.string (f m).1, .string (f m).2] 58)).alloc (.cells #[.string (f c).1, .string (f c).2] 58)).drew = w3 at hr3 hc3 ⊢
        go_wp2
        go_roundw
        case rel => exact ⟨p, c, by omega, by omega, by omega, rfl, rfl, hr3, hi.down hs (by omega) hcmp, hc3⟩
        case measure => simp [intOf]; omega
      | false =>
        have hcd := cmp_neg hcmp
        go_region_held3 (fun w' => w'.cell? ⟨b, m * 2, none⟩ = some (.string (f m).1) ∧ w'.cell? ⟨b, m * 2 + 1, none⟩ = some (.string (f m).2) ∧ w'.cell? ⟨b, c * 2, none⟩ = some (.string (f c).1) ∧ w'.cell? ⟨b, c * 2 + 1, none⟩ = some (.string (f c).2)) (go_keep) (first | (go_at_call 22; refine (c_cmp (f m) (f c) _).mono ?_; rintro e w' ⟨rfl, rfl⟩))
        clear a0 a1 b0 b1 hr hc
        generalize ((wr.alloc (.cells #[.string (f m).1, .string (f m).2] 58)).alloc (.cells #[.string (f c).1, .string (f c).2] 58)).drew = w3 at hr3 hc3 ⊢
        go_wp2
        go_roundw
        case rel => exact ⟨c + 1, q, by omega, by omega, hq, by go_num, rfl, hr3, hi.up hs (by omega) hcmp, hc3⟩
        case measure => simp [intOf]; omega
    · obtain rfl : p = q := by omega
      have hd2 : decide ((p : Int) < (p : Int)) = false := by simp
      have hfin := merge_last hs hp hq (show m + 1 ≤ n by omega) hi.lo hi.hi
      clear h
      go_wp2
      rename World => w2
      go_loopw [17] (fun k wr => ∃ k' : Nat, p ≤ k' ∧ k' ≤ m ∧ k = .int .i64 k' ∧ LRow wr b cap (rotF f k' m (m + 1)) ∧ Chg w wr (fun j => j = b)) (fun k _ => (intOf k).toNat)
      case atStart => exact ⟨m, by omega, by omega, rfl, by rw [rotF_nil' f m (m + 1) (by omega)]; exact hr, hc⟩
      case round =>
        obtain ⟨k, hxk, hkp, rfl, hrk, hck⟩ := hrel
        clear hr hc
        by_cases hk : p < k
        · have hd3 : decide ((p : Int) < (k : Int)) = true := by simp; omega
          generalize hF : rotF f k m (m + 1) = F at hrk
          have i3 : (1 : Int) ≤ (k : Int) := by omega
          have i4 : (k : Int) - 1 < (n : Int) := by omega
          have i5 : IntKind.i64.wrap ((k : Int) - 1) = (k : Int) - 1 := by rw [IntKind.wrap_i64]; omega
          have i6 : ((k : Int) - 1).toNat = k - 1 := by omega
          have i7 : (k : Int) < (n : Int) := by omega
          have a0 := hrk.cell0 (k := k) (by omega)
          have a1 := hrk.cell1 (k := k) (by omega)
          have b0 := hrk.cell0 (k := k - 1) (by omega)
          have b1 := hrk.cell1 (k := k - 1) (by omega)
          have f0 := hrk.free (k * 2)
          have f1 := hrk.free (k * 2 + 1)
          have f2 := hrk.free ((k - 1) * 2)
          have f3 := hrk.free ((k - 1) * 2 + 1)
          have hsw := hrk.swap (i := k) (j := k - 1) (by omega) (by omega)
          have hup : Hid (swp F k (k - 1) = rotF f (k - 1) m (m + 1)) := by rw [← hF]; exact rot_down f k m (by omega) hkp
          clear hrk hF
          go_wp2
          go_region
          all_goals
            go_wp2
            go_roundw
            case rel => exact ⟨k - 1, by omega, by omega, by go_num, by rw [← hup.out]; exact hsw.drew, (hck.trans chg_swap (fun _ e => .inl e)).drew⟩
            case measure => simp [intOf]; omega
        · obtain rfl : k = p := by omega
          have hd3 : decide ((k : Int) < (k : Int)) = false := by simp
          go_wp2
          refine bodyPost_ret (results_none rfl _ _ _) rfl ?_
          exact ⟨rfl, _, hrk, hfin, hck⟩
end Go.Proofs.Ybulkafyg
