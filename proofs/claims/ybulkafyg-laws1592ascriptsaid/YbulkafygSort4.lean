/-
  symMerge: walked, the long case, and by induction the whole.
-/
import Derived.Test.YbulkafygSort3
import Derived.Deep.CutRange
namespace Go.Proofs.Ybulkafyg
open Go.RowKit

/-- where the third search starts -/
def St0 (x m y mid s r : Nat) : Prop := (mid < m ∧ s = mid + m - y ∧ r = mid) ∨ (m ≤ mid ∧ s = x ∧ r = m)
/-- the third search: c against its mirror P - c -/
structure Sch0 (f : Nat → Lab) (P s0 r0 s r : Nat) : Prop where
  lo : ∀ c, s0 ≤ c → c < s → leB (f c) (f (P - c))
  hi : ∀ c, r ≤ c → c < r0 → ltB (key (f (P - c))) (key (f c)) = true
theorem Sch0.up {f : Nat → Lab} {x m y mid P s0 r0 s r c : Nat} (h1 : x + 1 < m) (h2 : m + 1 < y) (hm : 2 * mid ≤ x + y) (hm' : x + y ≤ 2 * mid + 1) (hP : P + 1 = mid + m) (hq : St0 x m y mid s0 r0)
    (hs1 : SortedOn f x m) (hs2 : SortedOn f m y) (hc : c < r0) (hs : Sch0 f P s0 r0 s r) (e : ltB (key (f (P - c))) (key (f c)) = false) : Sch0 f P s0 r0 (c + 1) r := by
  refine ⟨fun d d1 d2 => ?_, hs.hi⟩
  unfold St0 at hq
  exact leB_trans (hs1.le (show x ≤ d by omega) (show d ≤ c by omega) (by omega)) (leB_trans e (hs2.le (show m ≤ P - c by omega) (show P - c ≤ P - d by omega) (by omega)))
theorem Sch0.down {f : Nat → Lab} {x m y mid P s0 r0 s r c : Nat} (h1 : x + 1 < m) (h2 : m + 1 < y) (hm : 2 * mid ≤ x + y) (hm' : x + y ≤ 2 * mid + 1) (hP : P + 1 = mid + m) (hq : St0 x m y mid s0 r0)
    (hs1 : SortedOn f x m) (hs2 : SortedOn f m y) (hcs : s0 ≤ c) (hs : Sch0 f P s0 r0 s r) (e : ltB (key (f (P - c))) (key (f c)) = true) : Sch0 f P s0 r0 s c := by
  refine ⟨hs.lo, fun d d1 d2 => ?_⟩
  unfold St0 at hq
  exact lt_of_le_lt (hs2.le (show m ≤ P - d by omega) (show P - d ≤ P - c by omega) (by omega)) (lt_of_lt_le e (hs1.le (show x ≤ c by omega) d1 (by omega)))
theorem Sch0.halves {f : Nat → Lab} {x m y mid P s0 r0 s e n : Nat} (hn : y ≤ n) (hm : 2 * mid ≤ x + y) (hm' : x + y ≤ 2 * mid + 1) (hP : P + 1 = mid + m) (hq : St0 x m y mid s0 r0)
    (hs1 : SortedOn f x m) (hs2 : SortedOn f m y) (a1 : s0 ≤ s) (a2 : s ≤ r0) (he : e + s = mid + m) (hs : Sch0 f P s0 r0 s s) : Halves f (rotF f s m e) x s mid e y n := by
  unfold St0 at hq
  have := merge_rot (f := f) (a := x) (s := s) (m := m) (e := e) (b := y) (n := n) (by omega) (by omega) (by omega) (by omega) hn hs1 hs2
    (fun q1 q2 => by have := hs.hi s (Nat.le_refl _) (by omega); rwa [show P - s = e - 1 by omega] at this)
    (fun q1 q2 => by have := hs.lo (s - 1) (by omega) (by omega); rwa [show P - (s - 1) = e by omega] at this)
  rwa [show s + (e - m) = mid by omega] at this

/-- symMerge keeps its word on stretches shorter than D -/
def SymOk (D : Nat) : Prop := ∀ (C b n cap x m y : Nat) (f : Nat → Lab) (w : World), LRow w b cap f → n ≤ cap → cap ≤ 1000000 → x < m → m < y → y ≤ n → y - x < D → SortedOn f x m → SortedOn f m y →
  Calls Yba.prog 27 #[.slice (some ⟨b, 0, none⟩) n C, .int .i64 x, .int .i64 m, .int .i64 y, cmpV] w fun e w' => e = .returned (.tuple #[]) ∧ ∃ g, LRow w' b cap g ∧ Srt f g x y n ∧ Chg w w' (fun j => j = b)

theorem sorted_join {F : Nat → Lab} {x s y : Nat} (h : ¬ (x < s ∧ s < y)) (h1 : x ≤ s) (h2 : s ≤ y) (a : SortedOn F x s) (b : SortedOn F s y) : SortedOn F x y := by
  by_cases e : s = x
  · rw [e] at b; exact b
  · rw [show s = y by omega] at a; exact a

set_option maxRecDepth 100000 in
set_option maxHeartbeats 800000 in
theorem s_symG (C b n cap x m y : Nat) (f : Nat → Lab) (w : World) (h : LRow w b cap f) (hn : n ≤ cap) (hcap : cap ≤ 1000000) (h1 : x + 1 < m) (hy : m + 1 < y) (h2 : y ≤ n) (H : SymOk (y - x)) (hs1 : SortedOn f x m) (hs2 : SortedOn f m y) :
    Calls Yba.prog 27 #[.slice (some ⟨b, 0, none⟩) n C, .int .i64 x, .int .i64 m, .int .i64 y, cmpV] w fun e w' => e = .returned (.tuple #[]) ∧ ∃ g, LRow w' b cap g ∧ Srt f g x y n ∧ Chg w w' (fun j => j = b) := by
  go_enter Yba.func27, Yba.ntmps27
  have hd : ((m : Int) - (x : Int) == 1) = false := by simp; omega
  have hd1 : ((y : Int) - (m : Int) == 1) = false := by simp; omega
  go_upto_if 140 with fail
  obtain ⟨mid, hmm⟩ : ∃ c, c = midN x y := ⟨_, rfl⟩
  rw [show ((x : Int) + (y : Int)) / 2 = (mid : Int) by rw [hmm]; unfold midN; omega]
  have hmid : 2 * mid ≤ x + y ∧ x + y ≤ 2 * mid + 1 := by unfold midN at hmm; omega
  clear hmm
  go_cut [20, 21] from 141 to 146 (fun s r wc => ∃ s0 r0 : Nat, s = .int .i64 s0 ∧ r = .int .i64 r0 ∧ St0 x m y mid s0 r0 ∧ wc = w)
  case first =>
    by_cases hlt : mid < m
    · have hd2 : decide ((mid : Int) < (m : Int)) = true := by simp; omega
      go_wp2
      go_meet
      exact ⟨mid + m - y, mid, by go_num, rfl, .inl ⟨hlt, rfl, rfl⟩, rfl⟩
    · have hd2 : decide ((mid : Int) < (m : Int)) = false := by simp; omega
      go_wp2
      go_meet
      exact ⟨x, m, rfl, rfl, .inr ⟨by omega, rfl, rfl⟩, rfl⟩
  case rest =>
    obtain ⟨s0, r0, rfl, rfl, hq, rfl⟩ := hcut
    generalize decide ((mid : Int) < (m : Int)) = B
    obtain ⟨hmid1, hmid2⟩ := hmid
    have hq0 : x ≤ s0 ∧ s0 ≤ r0 ∧ r0 ≤ m ∧ r0 ≤ mid ∧ mid + m ≤ y + s0 := by unfold St0 at hq; omega
    obtain ⟨q1, q2, q3, q4, q5⟩ := hq0
    have hP : mid + m - 1 + 1 = mid + m := by omega
    go_wp2
    rw [show ((mid : Int) + (m : Int) - 1) = ((mid + m - 1 : Nat) : Int) by omega, show ((mid : Int) + (m : Int)) = ((mid + m : Nat) : Int) by omega]
    generalize hPe : mid + m - 1 = P at hP ⊢
    clear hPe
    generalize hNe : mid + m = N at hP ⊢
    have hN1 : N ≤ mid + m := by omega
    have hN2 : mid + m ≤ N := by omega
    clear hNe
    go_loopw [20, 21, 23] (fun i j _ wr => ∃ s r : Nat, s0 ≤ s ∧ s ≤ r ∧ r ≤ r0 ∧ i = .int .i64 s ∧ j = .int .i64 r ∧ LRow wr b cap f ∧ Sch0 f P s0 r0 s r ∧ Chg wc wr (fun j => j = b)) (fun i j _ _ => (intOf j).toNat - (intOf i).toNat)
    case atStart => exact ⟨s0, r0, by omega, by omega, by omega, rfl, rfl, h, ⟨fun _ _ _ => by omega, fun _ _ _ => by omega⟩, Chg.refl _ _⟩
    case round =>
      obtain ⟨p, q, hp, hpq, hqr, rfl, rfl, hr, hi, hc⟩ := hrel
      by_cases hlt : p < q
      · have hm := midN_lt hlt
        obtain ⟨c, hcc⟩ : ∃ c, c = midN p q := ⟨_, rfl⟩
        rw [← hcc] at hm
        go_wp2
        rw [show ((p : Int) + (q : Int)) / 2 = (c : Int) by rw [hcc]; unfold midN; omega]
        clear hcc h
        have a0 := hr.cell0 (k := P - c) (by omega)
        have a1 := hr.cell1 (k := P - c) (by omega)
        have b0 := hr.cell0 (k := c) (by omega)
        have b1 := hr.cell1 (k := c) (by omega)
        have i1 : (0 : Int) ≤ (c : Int) := by omega
        have i2 : (c : Int) < (n : Int) := by omega
        have i3 : (0 : Int) ≤ (P : Int) - (c : Int) := by omega
        have i4 : (P : Int) - (c : Int) < (n : Int) := by omega
        have i5 : IntKind.i64.wrap ((P : Int) - (c : Int)) = (P : Int) - (c : Int) := by rw [IntKind.wrap_i64]; omega
        have i6 : ((P : Int) - (c : Int)).toNat = P - c := by omega
        have i7 : decide ((P : Int) - (c : Int) < 0) = false := by simp; omega
        have i8 : decide ((n : Int) ≤ (P : Int) - (c : Int)) = false := by simp; omega
        have i9 : ¬ (n : Int) ≤ (P : Int) - (c : Int) := by omega
        have i10 : ¬ (P : Int) - (c : Int) < 0 := by omega
        have i11 : ¬ (P : Int) < (c : Int) := by omega
        have i12 : (c : Int) ≤ (P : Int) := by omega
        have i13 : (P : Int) < (n : Int) + (c : Int) := by omega
        have hr3 : LRow ((wr.alloc (.cells #[.string (f (P - c)).1, .string (f (P - c)).2] 58)).alloc (.cells #[.string (f c).1, .string (f c).2] 58)).drew b cap f := ((hr.alloc _).alloc _).drew
        have hc3 : Chg wc ((wr.alloc (.cells #[.string (f (P - c)).1, .string (f (P - c)).2] 58)).alloc (.cells #[.string (f c).1, .string (f c).2] 58)).drew (fun j => j = b) := ((hc.alloc _).alloc _).drew
        cases hcmp : ltB (key (f (P - c))) (key (f c)) with
        | true =>
          have hcd := cmp_pos hcmp
          go_region_held3 (fun w' => w'.cell? ⟨b, (P - c) * 2, none⟩ = some (.string (f (P - c)).1) ∧ w'.cell? ⟨b, (P - c) * 2 + 1, none⟩ = some (.string (f (P - c)).2) ∧ w'.cell? ⟨b, c * 2, none⟩ = some (.string (f c).1) ∧ w'.cell? ⟨b, c * 2 + 1, none⟩ = some (.string (f c).2)) (go_keep) (first | (go_at_call 22; refine (c_cmp (f (P - c)) (f c) _).mono ?_; rintro e w' ⟨rfl, rfl⟩))
          clear a0 a1 b0 b1 hr hc
          generalize ((wr.alloc (.cells #[.string (f (P - c)).1, .string (f (P - c)).2] 58)).alloc (.cells #[.string (f c).1, .string (f c).2] 58)).drew = w3 at hr3 hc3 ⊢
          have hi' := hi.down h1 hy hmid1 hmid2 (show P + 1 = mid + m by omega) hq hs1 hs2 (by omega) hcmp
          go_wp2
          go_roundw
          case rel => exact ⟨p, c, by omega, by omega, by omega, rfl, rfl, hr3, hi', hc3⟩
          case measure => simp [intOf]; omega
        | false =>
          have hcd := cmp_neg hcmp
          go_region_held3 (fun w' => w'.cell? ⟨b, (P - c) * 2, none⟩ = some (.string (f (P - c)).1) ∧ w'.cell? ⟨b, (P - c) * 2 + 1, none⟩ = some (.string (f (P - c)).2) ∧ w'.cell? ⟨b, c * 2, none⟩ = some (.string (f c).1) ∧ w'.cell? ⟨b, c * 2 + 1, none⟩ = some (.string (f c).2)) (go_keep) (first | (go_at_call 22; refine (c_cmp (f (P - c)) (f c) _).mono ?_; rintro e w' ⟨rfl, rfl⟩))
          clear a0 a1 b0 b1 hr hc
          generalize ((wr.alloc (.cells #[.string (f (P - c)).1, .string (f (P - c)).2] 58)).alloc (.cells #[.string (f c).1, .string (f c).2] 58)).drew = w3 at hr3 hc3 ⊢
          have hi' := hi.up h1 hy hmid1 hmid2 (show P + 1 = mid + m by omega) hq hs1 hs2 (by omega) hcmp
          go_wp2
          go_roundw
          case rel => exact ⟨c + 1, q, by omega, by omega, by omega, by go_num, rfl, hr3, hi', hc3⟩
          case measure => simp [intOf]; omega
      · obtain rfl : p = q := by omega
        have hd2 : decide ((p : Int) < (p : Int)) = false := by simp
        have hfin := Sch0.halves (e := N - p) (n := n) h2 hmid1 hmid2 (show P + 1 = mid + m by omega) hq hs1 hs2 hp hqr (by omega) hi
        have he1 : N - p + p ≤ mid + m := by omega
        have he2 : mid + m ≤ N - p + p := by omega
        clear h
        rename World => w2
        go_upto_region 39 with fail
        rw [show ((N : Int) - (p : Int)) = ((N - p : Nat) : Int) by omega]
        generalize N - p = e at hfin he1 he2 ⊢
        have hpx : x ≤ p := by omega
        have hpm : p ≤ mid := by omega
        have hme : mid ≤ e := by omega
        have hey : e ≤ y := by omega
        have hpm' : p ≤ m := by omega
        have hme' : m ≤ e := by omega
        clear hi hq hd2 he1 he2 hN1 hN2 hP q1 q2 q3 q4 q5 hqr hp hlt hpq
        go_cut [185] from 178 to 184 (fun v wc' => v = .bool (decide (p < m ∧ m < e)) ∧ wc' = w2)
        case first =>
          by_cases c1 : p < m
          · have d1 : decide ((p : Int) < (m : Int)) = true := by simp; omega
            by_cases c2 : m < e
            · have d2 : decide ((m : Int) < (e : Int)) = true := by simp; omega
              go_wp2
              go_meet
              exact ⟨by simp [c1, c2], rfl⟩
            · have d2 : decide ((m : Int) < (e : Int)) = false := by simp; omega
              go_wp2
              go_meet
              exact ⟨by simp [c1, c2], rfl⟩
          · have d1 : decide ((p : Int) < (m : Int)) = false := by simp; omega
            go_wp2
            go_meet
            exact ⟨by simp [c1], rfl⟩
        case rest =>
          obtain ⟨rfl, rfl⟩ := hcut
          rename World => w4
          obtain ⟨B2, hB2⟩ : ∃ B2, Hid (B2 = decide (p < m ∧ m < e)) := ⟨_, rfl⟩
          rw [← hB2.out]
          go_upto_if 185 with fail
          generalize hF : rotF f p m e = F at hfin
          go_cut [] from 186 to 191 (fun wc' => LRow wc' b cap F ∧ Chg wc wc' (fun j => j = b))
          case first =>
            cases B2 with
            | true =>
              have hrt : p < m ∧ m < e := of_decide_eq_true hB2.out.symm
              go_wp2_with fail
              refine (s_rotate C b n cap p m e f cmpV w4 hr hn hcap hrt.1 hrt.2 (by omega)).mono ?_
              rintro e w1 ⟨rfl, hr1, hc1⟩
              go_wp2
              go_meet
              exact ⟨by rw [← hF]; exact hr1, hc.trans hc1 (fun _ e => .inl e)⟩
            | false =>
              have hrt : ¬ (p < m ∧ m < e) := of_decide_eq_false hB2.out.symm
              have hFe : F = f := by
                rw [← hF]
                by_cases e1 : p = m
                · rw [e1]; exact rotF_nil' f m e hme'
                · rw [show e = m by omega]; exact rotF_nil f p m
              have HFe : Hid (F = f) := hFe
              clear hF hFe
              go_wp2
              go_meet
              exact ⟨by rw [HFe.out]; exact hr, hc⟩
          case rest =>
            obtain ⟨hrF, hcF⟩ := hcut
            clear hF hr hc hB2
            rename World => w5
            go_upto_region 41 with fail
            go_cut [199] from 192 to 198 (fun v wc' => v = .bool (decide (x < p ∧ p < mid)) ∧ wc' = w5)
            case first =>
              by_cases c1 : x < p
              · have d1 : decide ((x : Int) < (p : Int)) = true := by simp; omega
                by_cases c2 : p < mid
                · have d2 : decide ((p : Int) < (mid : Int)) = true := by simp; omega
                  go_wp2
                  go_meet
                  exact ⟨by simp [c1, c2], rfl⟩
                · have d2 : decide ((p : Int) < (mid : Int)) = false := by simp; omega
                  go_wp2
                  go_meet
                  exact ⟨by simp [c1, c2], rfl⟩
              · have d1 : decide ((x : Int) < (p : Int)) = false := by simp; omega
                go_wp2
                go_meet
                exact ⟨by simp [c1], rfl⟩
            case rest =>
              obtain ⟨rfl, rfl⟩ := hcut
              rename World => w6
              obtain ⟨B3, hB3⟩ : ∃ B3, Hid (B3 = decide (x < p ∧ p < mid)) := ⟨_, rfl⟩
              rw [← hB3.out]
              go_upto_if 199 with fail
              go_cut [] from 200 to 205 (fun wc' => ∃ g1, LRow wc' b cap g1 ∧ Srt F g1 x mid n ∧ Chg wc wc' (fun j => j = b))
              case first =>
                cases B3 with
                | true =>
                  have hrt : x < p ∧ p < mid := of_decide_eq_true hB3.out.symm
                  go_wp2_with fail
                  refine (H C b n cap x p mid F w6 hrF hn hcap hrt.1 hrt.2 (by omega) (by omega) hfin.s1 hfin.s2).mono ?_
                  rintro e w1 ⟨rfl, g1, hr1, hs1, hc1⟩
                  go_wp2
                  go_meet
                  exact ⟨g1, hr1, hs1, hcF.trans hc1 (fun _ e => .inl e)⟩
                | false =>
                  have hrt : ¬ (x < p ∧ p < mid) := of_decide_eq_false hB3.out.symm
                  go_wp2
                  go_meet
                  exact ⟨F, hrF, Srt.same (sorted_join hrt hpx hpm hfin.s1 hfin.s2), hcF⟩
              case rest =>
                obtain ⟨g1, hr1, hsr1, hc1⟩ := hcut
                clear hrF hcF hB3
                rename World => w7
                by_cases hrt : mid < e ∧ e < y
                · have d1 : decide ((mid : Int) < (e : Int)) = true := by simp; omega
                  have d2 : decide ((e : Int) < (y : Int)) = true := by simp; omega
                  go_wp2_with fail
                  refine (H C b n cap mid e y g1 w7 hr1 hn hcap hrt.1 hrt.2 h2 (by omega) (hfin.s3.congr fun i i1 _ => hsr1.out i (.inr i1)) (hfin.s4.congr fun i i1 _ => hsr1.out i (.inr (by omega)))).mono ?_
                  rintro e w1 ⟨rfl, g2, hr2, hs2, hc2⟩
                  go_wp2
                  go_end0
                  exact ⟨rfl, g2, hr2, hfin.join (by omega) (by omega) hsr1 hs2, hc1.trans hc2 (fun _ e => .inl e)⟩
                · have hso : SortedOn g1 mid y := (sorted_join hrt hme hey hfin.s3 hfin.s4).congr fun i i1 _ => hsr1.out i (.inr i1)
                  have hfi := hfin.join (by omega) (by omega) hsr1 (Srt.same hso)
                  by_cases c1 : mid < e
                  · have d1 : decide ((mid : Int) < (e : Int)) = true := by simp; omega
                    have d2 : decide ((e : Int) < (y : Int)) = false := by simp; omega
                    go_wp2
                    go_end0
                    exact ⟨rfl, g1, hr1, hfi, hc1⟩
                  · have d1 : decide ((mid : Int) < (e : Int)) = false := by simp; omega
                    go_wp2
                    go_end0
                    exact ⟨rfl, g1, hr1, hfi, hc1⟩

theorem symOk : ∀ D, SymOk D := by
  intro D
  induction D with
  | zero => intro C b n cap x m y f w _ _ _ _ _ _ h; omega
  | succ D ih =>
    intro C b n cap x m y f w h hn hcap h1 h2 h3 hD hs1 hs2
    by_cases c1 : m = x + 1
    · exact s_sym1 C b n cap x m y f w h hn hcap (by omega) (by omega) h2 h3 (by rw [← c1]; exact hs2)
    · by_cases c2 : y = m + 1
      · have := s_sym2 C b n cap x m y f w h hn hcap (by omega) (by omega) h2 h3 hs1
        rw [← c2] at this
        exact this
      · refine s_symG C b n cap x m y f w h hn hcap (by omega) (by omega) h3 ?_ hs1 hs2
        intro C b n cap x' m' y' f w a1 a2 a3 a4 a5 a6 a7
        exact ih C b n cap x' m' y' f w a1 a2 a3 a4 a5 a6 (by omega)
theorem s_symMerge (C b n cap x m y : Nat) (f : Nat → Lab) (w : World) (h : LRow w b cap f) (hn : n ≤ cap) (hcap : cap ≤ 1000000) (h1 : x < m) (h2 : m < y) (h3 : y ≤ n) (hs1 : SortedOn f x m) (hs2 : SortedOn f m y) :
    Calls Yba.prog 27 #[.slice (some ⟨b, 0, none⟩) n C, .int .i64 x, .int .i64 m, .int .i64 y, cmpV] w fun e w' => e = .returned (.tuple #[]) ∧ ∃ g, LRow w' b cap g ∧ Srt f g x y n ∧ Chg w w' (fun j => j = b) :=
  symOk (y - x + 1) C b n cap x m y f w h hn hcap h1 h2 h3 (by omega) hs1 hs2
end Go.Proofs.Ybulkafyg
