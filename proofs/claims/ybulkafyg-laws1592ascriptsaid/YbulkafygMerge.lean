/-
  Plain: what the pieces of the stable sort owe: insertion, the three cases of the merge, blocks.
-/
import Derived.Test.YbulkafygAlg
namespace Go.Proofs.Ybulkafyg

/-- g is f with the labels at a .. b-1 in their stable order -/
structure Srt (f g : Nat → Lab) (a b n : Nat) : Prop where
  sorted : SortedOn g a b
  kf : KF f g n
  out : ∀ x, x < a ∨ b ≤ x → g x = f x
  src : ∀ x, a ≤ x → x < b → ∃ y, a ≤ y ∧ y < b ∧ g x = f y

theorem Srt.same {f : Nat → Lab} {a b n : Nat} (h : SortedOn f a b) : Srt f f a b n := ⟨h, KF.refl _ _, fun _ _ => rfl, fun x h1 h2 => ⟨x, h1, h2, rfl⟩⟩
theorem lt_ne {x y : Lab} (h : ltB (key x) (key y) = true) : key x ≠ key y := fun e => by rw [e, ltB_irrefl] at h; cases h

theorem rot_src {f : Nat → Lab} {a m b lo hi x : Nat} (h1 : a ≤ m) (h2 : m ≤ b) (hl : lo ≤ a) (hh : b ≤ hi) (x1 : lo ≤ x) (x2 : x < hi) : ∃ y, lo ≤ y ∧ y < hi ∧ rotF f a m b x = f y := by
  by_cases e : x < a ∨ b ≤ x
  · exact ⟨x, x1, x2, rotF_out h1 h2 e⟩
  · by_cases g : x < a + (b - m)
    · exact ⟨x + (m - a), by omega, by omega, rotF_lo (by omega) g⟩
    · exact ⟨x - (b - m), by omega, by omega, rotF_hi (by omega) (by omega)⟩

/-- m - a = 1: the one label goes up -/
theorem merge_one {f : Nat → Lab} {a b i n : Nat} (hs : SortedOn f (a + 1) b) (h0 : a + 1 ≤ i) (hib : i ≤ b) (hbn : b ≤ n)
    (h1 : ∀ h, a + 1 ≤ h → h < i → ltB (key (f h)) (key (f a)) = true) (h2 : ∀ h, i ≤ h → h < b → leB (f a) (f h)) : Srt f (rotF f a (a + 1) i) a b n := by
  refine ⟨?_, KF_rot (by omega) h0 (by omega) (fun x y x1 x2 y1 y2 => ?_), fun x hx => rotF_out (by omega) h0 (by omega), fun x x1 x2 => rot_src (by omega) h0 (Nat.le_refl _) hib x1 x2⟩
  · intro x y x1 xy yb
    have hx : rotF f a (a + 1) i x = if x < i - 1 then f (x + 1) else if x = i - 1 then f a else f x := by
      unfold rotF; repeat' split
      all_goals first | rfl | (exfalso; omega) | (congr 1; omega)
    have hy : rotF f a (a + 1) i y = if y < i - 1 then f (y + 1) else if y = i - 1 then f a else f y := by
      unfold rotF; repeat' split
      all_goals first | rfl | (exfalso; omega) | (congr 1; omega)
    rw [hx, hy]
    by_cases ex : x < i - 1
    · rw [if_pos ex]
      by_cases ey : y < i - 1
      · rw [if_pos ey]; exact hs _ _ (by omega) (by omega) (by omega)
      · rw [if_neg ey]
        by_cases ey2 : y = i - 1
        · rw [if_pos ey2]; exact leB_of_lt (h1 _ (by omega) (by omega))
        · rw [if_neg ey2]; exact hs _ _ (by omega) (by omega) (by omega)
    · rw [if_neg ex, if_neg (show ¬ y < i - 1 by omega), if_neg (show ¬ y = i - 1 by omega)]
      by_cases ex2 : x = i - 1
      · rw [if_pos ex2]; exact h2 _ (by omega) yb
      · rw [if_neg ex2]; exact hs _ _ (by omega) xy yb
  · rw [show x = a by omega]
    exact (lt_ne (h1 y y1 y2)).symm

/-- b - m = 1: the last label goes down -/
theorem merge_last {f : Nat → Lab} {a m i n : Nat} (hs : SortedOn f a m) (h0 : a ≤ i) (him : i ≤ m) (hmn : m + 1 ≤ n)
    (h1 : ∀ h, a ≤ h → h < i → leB (f h) (f m)) (h2 : ∀ h, i ≤ h → h < m → ltB (key (f m)) (key (f h)) = true) : Srt f (rotF f i m (m + 1)) a (m + 1) n := by
  refine ⟨?_, KF_rot him (by omega) hmn (fun x y x1 x2 y1 y2 => ?_), fun x hx => rotF_out him (by omega) (by omega), fun x x1 x2 => rot_src him (by omega) h0 (Nat.le_refl _) x1 x2⟩
  · intro x y x1 xy yb
    have hx : rotF f i m (m + 1) x = if x < i then f x else if x = i then f m else f (x - 1) := by
      unfold rotF; repeat' split
      all_goals first | rfl | (exfalso; omega) | (congr 1; omega)
    have hy : rotF f i m (m + 1) y = if y < i then f y else if y = i then f m else f (y - 1) := by
      unfold rotF; repeat' split
      all_goals first | rfl | (exfalso; omega) | (congr 1; omega)
    rw [hx, hy]
    by_cases ex : x < i
    · rw [if_pos ex]
      by_cases ey : y < i
      · rw [if_pos ey]; exact hs _ _ x1 xy (by omega)
      · rw [if_neg ey]
        by_cases ey2 : y = i
        · rw [if_pos ey2]; exact h1 _ x1 ex
        · rw [if_neg ey2]; exact hs _ _ x1 (by omega) (by omega)
    · rw [if_neg ex, if_neg (show ¬ y < i by omega), if_neg (show ¬ y = i by omega)]
      by_cases ex2 : x = i
      · rw [if_pos ex2]; exact leB_of_lt (h2 _ (by omega) (by omega))
      · rw [if_neg ex2]; exact hs _ _ (by omega) (by omega) (by omega)
  · rw [show y = m by omega]
    exact (lt_ne (h2 x x1 x2)).symm

/-- the two halves behind the rotation -/
structure Halves (f g : Nat → Lab) (a s mid e b n : Nat) : Prop where
  kf : KF f g n
  out : ∀ x, x < a ∨ b ≤ x → g x = f x
  src : ∀ x, a ≤ x → x < b → ∃ y, a ≤ y ∧ y < b ∧ g x = f y
  s1 : SortedOn g a s
  s2 : SortedOn g s mid
  s3 : SortedOn g mid e
  s4 : SortedOn g e b
  cross : ∀ x y, a ≤ x → x < mid → mid ≤ y → y < b → leB (g x) (g y)

theorem merge_rot {f : Nat → Lab} {a s m e b n : Nat} (h1 : a ≤ s) (h2 : s ≤ m) (h3 : m ≤ e) (h4 : e ≤ b) (h5 : b ≤ n) (hs1 : SortedOn f a m) (hs2 : SortedOn f m b)
    (hlt : s < m → m < e → ltB (key (f (e - 1))) (key (f s)) = true) (hle : a < s → e < b → leB (f (s - 1)) (f e)) : Halves f (rotF f s m e) a s (s + (e - m)) e b n := by
  have lo : ∀ x, s ≤ x → x < s + (e - m) → rotF f s m e x = f (x + (m - s)) := fun x a1 a2 => rotF_lo a1 a2
  have hi : ∀ x, s + (e - m) ≤ x → x < e → rotF f s m e x = f (x - (e - m)) := fun x a1 a2 => rotF_hi a1 a2
  have ou : ∀ x, x < s ∨ e ≤ x → rotF f s m e x = f x := fun x a1 => rotF_out h2 h3 a1
  have lt' : ∀ u v, s ≤ u → u < m → m ≤ v → v < e → ltB (key (f v)) (key (f u)) = true := fun u v u1 u2 v1 v2 =>
    lt_of_le_lt (hs2.le v1 (show v ≤ e - 1 by omega) (by omega)) (lt_of_lt_le (hlt (by omega) (by omega)) (hs1.le h1 u1 u2))
  refine ⟨KF_rot h2 h3 (by omega) (fun x y x1 x2 y1 y2 => (lt_ne (lt' x y x1 x2 y1 y2)).symm), fun x hx => ou x (by omega), fun x x1 x2 => rot_src h2 h3 h1 h4 x1 x2, ?_, ?_, ?_, ?_, ?_⟩
  · exact (hs1.mono (Nat.le_refl _) h2).congr (fun x _ x2 => ou x (.inl x2))
  · intro x y x1 xy y2
    rw [lo x x1 (by omega), lo y (by omega) y2]
    exact hs2 _ _ (by omega) (by omega) (by omega)
  · intro x y x1 xy y2
    rw [hi x x1 (by omega), hi y (by omega) y2]
    exact hs1 _ _ (by omega) (by omega) (by omega)
  · exact (hs2.mono h3 (Nat.le_refl _)).congr (fun x x1 _ => ou x (.inr x1))
  · intro x y x1 x2 y1 y2
    by_cases ex : x < s
    · rw [ou x (.inl ex)]
      by_cases ey : y < e
      · rw [hi y y1 ey]; exact hs1.le x1 (by omega) (by omega)
      · rw [ou y (.inr (by omega))]
        exact leB_trans (hs1.le x1 (show x ≤ s - 1 by omega) (by omega)) (leB_trans (hle (by omega) (by omega)) (hs2.le h3 (by omega) y2))
    · rw [lo x (by omega) x2]
      by_cases ey : y < e
      · rw [hi y y1 ey]
        exact leB_of_lt (lt' _ _ (by omega) (by omega) (by omega) (by omega))
      · rw [ou y (.inr (by omega))]
        exact hs2.le (by omega) (by omega) y2

theorem Halves.join {f g g1 g2 : Nat → Lab} {a s mid e b n : Nat} (h : Halves f g a s mid e b n) (ha : a ≤ mid) (hb : mid ≤ b) (h1 : Srt g g1 a mid n) (h2 : Srt g1 g2 mid b n) : Srt f g2 a b n := by
  have left : ∀ x, a ≤ x → x < mid → g2 x = g1 x := fun x _ x2 => h2.out x (.inl x2)
  refine ⟨?_, (h.kf.trans h1.kf).trans h2.kf, fun x hx => ?_, fun x x1 x2 => ?_⟩
  · intro x y x1 xy yb
    by_cases ex : x < mid
    · by_cases ey : y < mid
      · rw [left x x1 ex, left y (by omega) ey]; exact h1.sorted x y x1 xy ey
      · obtain ⟨x', a1, a2, e1⟩ := h1.src x x1 ex
        obtain ⟨y', b1, b2, e2⟩ := h2.src y (by omega) yb
        rw [left x x1 ex, e1, e2, h1.out y' (.inr b1)]
        exact h.cross x' y' a1 a2 b1 b2
    · exact h2.sorted x y (by omega) xy yb
  · rw [h2.out x (by omega), h1.out x (by omega), h.out x hx]
  · by_cases ex : x < mid
    · obtain ⟨x', a1, a2, e1⟩ := h1.src x x1 ex
      obtain ⟨y, b1, b2, e2⟩ := h.src x' a1 (by omega)
      exact ⟨y, b1, b2, by rw [left x x1 ex, e1, e2]⟩
    · obtain ⟨x', a1, a2, e1⟩ := h2.src x (by omega) x2
      obtain ⟨y, b1, b2, e2⟩ := h.src x' (by omega) a2
      exact ⟨y, b1, b2, by rw [e1, h1.out x' (.inr a1), e2]⟩

/-! ### insertion -/
/-- inside the round for place i: the label at j still has to go down -/
structure Ins (f g : Nat → Lab) (a i j n : Nat) : Prop where
  kf : KF f g n
  out : ∀ x, x < a ∨ i < x → g x = f x
  src : ∀ x, a ≤ x → x ≤ i → ∃ y, a ≤ y ∧ y ≤ i ∧ g x = f y
  rest : ∀ x y, a ≤ x → x < y → y ≤ i → x ≠ j → y ≠ j → leB (g x) (g y)
  up : ∀ y, j < y → y ≤ i → leB (g j) (g y)

theorem ins_start {f : Nat → Lab} {a i n : Nat} (hs : SortedOn f a i) : Ins f f a i i n :=
  ⟨KF.refl _ _, fun _ _ => rfl, fun x h1 h2 => ⟨x, h1, h2, rfl⟩, fun x y h1 h2 h3 _ h5 => hs x y h1 h2 (by omega), fun y h1 h2 => by omega⟩
theorem ins_step {f g : Nat → Lab} {a i j n : Nat} (h : Ins f g a i j n) (ha : a < j) (hji : j ≤ i) (hin : i < n) (hlt : ltB (key (g j)) (key (g (j - 1))) = true) : Ins f (swp g j (j - 1)) a i (j - 1) n := by
  have e : swp g j (j - 1) = rotF g (j - 1) j (j + 1) := by
    rw [swp_comm]
    have := swp_adj g (j - 1)
    rw [show j - 1 + 1 = j by omega, show j - 1 + 2 = j + 1 by omega] at this
    exact this
  have val : ∀ x, swp g j (j - 1) x = if x = j - 1 then g j else if x = j then g (j - 1) else g x := fun _ => rfl
  have hkf : KF g (swp g j (j - 1)) n := by
    rw [e]
    refine KF_rot (by omega) (by omega) (by omega) (fun x y x1 x2 y1 y2 => ?_)
    rw [show x = j - 1 by omega, show y = j by omega]; exact (lt_ne hlt).symm
  refine ⟨h.kf.trans hkf, fun x hx => ?_, fun x x1 x2 => ?_, fun x y x1 xy y2 xj yj => ?_, fun y y1 y2 => ?_⟩
  · rw [val, if_neg (by omega), if_neg (by omega)]; exact h.out x hx
  · rw [val]
    by_cases e1 : x = j - 1
    · rw [if_pos e1]; exact h.src j (by omega) hji
    · rw [if_neg e1]
      by_cases e2 : x = j
      · rw [if_pos e2]; exact h.src (j - 1) (by omega) (by omega)
      · rw [if_neg e2]; exact h.src x x1 x2
  · rw [val, val, if_neg xj, if_neg yj]
    by_cases e1 : x = j
    · rw [if_pos e1, if_neg (by omega)]
      exact h.rest (j - 1) y (by omega) (by omega) y2 (by omega) (by omega)
    · rw [if_neg e1]
      by_cases e2 : y = j
      · rw [if_pos e2]; exact h.rest x (j - 1) x1 (by omega) (by omega) e1 (by omega)
      · rw [if_neg e2]; exact h.rest x y x1 xy y2 e1 e2
  · rw [val, val, if_pos rfl, if_neg (by omega)]
    by_cases e2 : y = j
    · rw [if_pos e2]; exact leB_of_lt hlt
    · rw [if_neg e2]; exact h.up y (by omega) y2
theorem ins_done {f g : Nat → Lab} {a i j n : Nat} (h : Ins f g a i j n) (ha : a ≤ j) (hji : j ≤ i) (hend : a < j → ltB (key (g j)) (key (g (j - 1))) = false) : Srt f g a (i + 1) n := by
  refine ⟨?_, h.kf, fun x hx => h.out x (by omega), fun x x1 x2 => by obtain ⟨y, y1, y2, e⟩ := h.src x x1 (by omega); exact ⟨y, y1, by omega, e⟩⟩
  intro x y x1 xy y2
  by_cases ex : x = j
  · rw [ex]; exact h.up y (by omega) (by omega)
  · by_cases ey : y = j
    · rw [ey]
      have hj : leB (g (j - 1)) (g j) := hend (by omega)
      by_cases e : x = j - 1
      · rw [e]; exact hj
      · exact leB_trans (h.rest x (j - 1) x1 (by omega) (by omega) ex (by omega)) hj
    · exact h.rest x y x1 xy (by omega) ex ey
theorem Srt.snoc {f g h : Nat → Lab} {a i n : Nat} (h1 : Srt f g a i n) (h2 : Srt g h a (i + 1) n) : Srt f h a (i + 1) n := by
  refine ⟨h2.sorted, h1.kf.trans h2.kf, fun x hx => by rw [h2.out x hx, h1.out x (by omega)], fun x x1 x2 => ?_⟩
  obtain ⟨y, y1, y2, e⟩ := h2.src x x1 x2
  by_cases hy : y < i
  · obtain ⟨z, z1, z2, e'⟩ := h1.src y y1 hy
    exact ⟨z, z1, by omega, by rw [e, e']⟩
  · exact ⟨y, y1, y2, by rw [e, h1.out y (by omega)]⟩
end Go.Proofs.Ybulkafyg
