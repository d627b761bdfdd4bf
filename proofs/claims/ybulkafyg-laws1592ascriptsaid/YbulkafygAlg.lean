/-
  Plain: segments of a row of labels, rotations, exchanges, sorted segments: what the stable sort's pieces do.
-/
import Derived.Test.YbulkafygOrd
namespace Go.Proofs.Ybulkafyg

/-- the labels at a .. b-1 -/
def seg (f : Nat → Lab) (a b : Nat) : List Lab := (List.range (b - a)).map (fun i => f (a + i))
def lst (f : Nat → Lab) (n : Nat) : List Lab := seg f 0 n

theorem seg_congr {f g : Nat → Lab} {a b : Nat} (h : ∀ i, a ≤ i → i < b → f i = g i) : seg f a b = seg g a b := by
  unfold seg
  apply List.map_congr_left
  intro i hi
  have := List.mem_range.1 hi
  exact h _ (by omega) (by omega)
theorem seg_shift {f g : Nat → Lab} {a b n : Nat} (h : ∀ i, i < n → f (a + i) = g (b + i)) : seg f a (a + n) = seg g b (b + n) := by
  unfold seg
  rw [Nat.add_sub_cancel_left, Nat.add_sub_cancel_left]
  apply List.map_congr_left
  intro i hi
  exact h i (List.mem_range.1 hi)
theorem seg_append (f : Nat → Lab) {a b c : Nat} (h1 : a ≤ b) (h2 : b ≤ c) : seg f a c = seg f a b ++ seg f b c := by
  unfold seg
  obtain ⟨p, rfl⟩ := Nat.exists_eq_add_of_le h1
  obtain ⟨q, rfl⟩ := Nat.exists_eq_add_of_le h2
  rw [show a + p + q - a = p + q by omega, Nat.add_sub_cancel_left, Nat.add_sub_cancel_left, List.range_add, List.map_append, List.map_map]
  congr 1
  apply List.map_congr_left
  intro i _
  simp [Nat.add_assoc]
theorem mem_seg {f : Nat → Lab} {a b : Nat} {x : Lab} (h : x ∈ seg f a b) : ∃ i, a ≤ i ∧ i < b ∧ x = f i := by
  unfold seg at h
  obtain ⟨i, hi, rfl⟩ := List.mem_map.1 h
  have := List.mem_range.1 hi
  exact ⟨a + i, by omega, by omega, rfl⟩
theorem length_seg (f : Nat → Lab) (a b : Nat) : (seg f a b).length = b - a := by simp [seg]

/-- the same labels of each name, in the same order -/
def KF (f g : Nat → Lab) (n : Nat) : Prop := ∀ k, ofKey k (lst f n) = ofKey k (lst g n)
theorem KF.refl (f : Nat → Lab) (n : Nat) : KF f f n := fun _ => rfl
theorem KF.trans {f g h : Nat → Lab} {n : Nat} (a : KF f g n) (b : KF g h n) : KF f h n := fun k => (a k).trans (b k)

def SortedOn (f : Nat → Lab) (a b : Nat) : Prop := ∀ i j, a ≤ i → i < j → j < b → leB (f i) (f j)
theorem SortedOn.le {f : Nat → Lab} {a b : Nat} (h : SortedOn f a b) {i j : Nat} (h1 : a ≤ i) (h2 : i ≤ j) (h3 : j < b) : leB (f i) (f j) := by
  rcases Nat.lt_or_ge i j with e | e
  · exact h i j h1 e h3
  · rw [show i = j by omega]; exact leB_refl _
theorem SortedOn.mono {f : Nat → Lab} {a b a' b' : Nat} (h : SortedOn f a b) (h1 : a ≤ a') (h2 : b' ≤ b) : SortedOn f a' b' := fun i j x y z => h i j (by omega) y (by omega)
theorem SortedOn.congr {f g : Nat → Lab} {a b : Nat} (h : SortedOn f a b) (e : ∀ i, a ≤ i → i < b → g i = f i) : SortedOn g a b := fun i j x y z => by
  rw [e i x (by omega), e j (by omega) z]; exact h i j x y z
theorem sorted_lst {f : Nat → Lab} {n : Nat} (h : SortedOn f 0 n) : Sorted (lst f n) := by
  unfold Sorted lst seg
  rw [List.pairwise_map]
  have : (List.range (n - 0)).Pairwise (fun i j => i < j ∧ j < n) := by
    rw [List.pairwise_iff_getElem]
    intro i j hi hj hij
    simp at hi hj ⊢
    omega
  exact this.imp (fun {i j} hij => h _ _ (by omega) (by omega) (by omega))

/-! ### rotation -/
def rotF (f : Nat → Lab) (a m b : Nat) : Nat → Lab := fun x =>
  if x < a then f x else if x < a + (b - m) then f (x + (m - a)) else if x < b then f (x - (b - m)) else f x

theorem rotF_out {f : Nat → Lab} {a m b x : Nat} (h1 : a ≤ m) (h2 : m ≤ b) (hx : x < a ∨ b ≤ x) : rotF f a m b x = f x := by
  unfold rotF
  rcases hx with hx | hx
  · rw [if_pos hx]
  · rw [if_neg (by omega), if_neg (by omega), if_neg (by omega)]
theorem rotF_lo {f : Nat → Lab} {a m b x : Nat} (h1 : a ≤ x) (h2 : x < a + (b - m)) : rotF f a m b x = f (x + (m - a)) := by
  unfold rotF
  rw [if_neg (by omega), if_pos h2]
theorem rotF_hi {f : Nat → Lab} {a m b x : Nat} (h1 : a + (b - m) ≤ x) (h2 : x < b) : rotF f a m b x = f (x - (b - m)) := by
  unfold rotF
  rw [if_neg (by omega), if_neg (by omega), if_pos h2]

theorem ofKey_append (k : List UInt8) (xs ys : List Lab) : ofKey k (xs ++ ys) = ofKey k xs ++ ofKey k ys := by simp [ofKey]
theorem ofKey_comm (k : List UInt8) (U V : List Lab) (h : ∀ u ∈ U, ∀ v ∈ V, key u ≠ key v) : ofKey k U ++ ofKey k V = ofKey k V ++ ofKey k U := by
  by_cases hu : ofKey k U = []
  · simp [hu]
  · have : ofKey k V = [] := by
      obtain ⟨u, hu⟩ := List.exists_mem_of_ne_nil _ hu
      obtain ⟨hu1, hu2⟩ := List.mem_filter.1 hu
      unfold ofKey
      rw [List.filter_eq_nil_iff]
      intro v hv hk
      simp at hu2 hk
      exact h u hu1 v hv (by rw [hu2, hk])
    simp [this]
theorem KF_rot {f : Nat → Lab} {a m b n : Nat} (h1 : a ≤ m) (h2 : m ≤ b) (h3 : b ≤ n) (hk : ∀ i j, a ≤ i → i < m → m ≤ j → j < b → key (f i) ≠ key (f j)) : KF f (rotF f a m b) n := by
  intro k
  have e1 : lst f n = seg f 0 a ++ (seg f a m ++ seg f m b) ++ seg f b n := by
    unfold lst
    rw [← seg_append f h1 h2, ← seg_append f (by omega) (by omega), ← seg_append f (by omega) h3]
  have e2 : lst (rotF f a m b) n = seg f 0 a ++ (seg f m b ++ seg f a m) ++ seg f b n := by
    unfold lst
    rw [seg_append _ (show 0 ≤ b by omega) h3, seg_append _ (show 0 ≤ a by omega) (show a ≤ b by omega), seg_append _ (show a ≤ a + (b - m) by omega) (show a + (b - m) ≤ b by omega)]
    congr 1
    · congr 1
      · exact seg_congr fun i _ hi => rotF_out h1 h2 (.inl hi)
      · congr 1
        · rw [show seg f m b = seg f m (m + (b - m)) by rw [show m + (b - m) = b by omega]]
          exact seg_shift fun i hi => by rw [rotF_lo (by omega) (by omega)]; congr 1; omega
        · rw [show seg f a m = seg f a (a + (m - a)) by rw [show a + (m - a) = m by omega]]
          have : seg (rotF f a m b) (a + (b - m)) b = seg (rotF f a m b) (a + (b - m)) (a + (b - m) + (m - a)) := by rw [show a + (b - m) + (m - a) = b by omega]
          rw [this]
          exact seg_shift fun i hi => by rw [rotF_hi (by omega) (by omega)]; congr 1; omega
    · exact seg_congr fun i hi _ => rotF_out h1 h2 (.inr hi)
  rw [e1, e2]
  simp only [ofKey_append]
  rw [ofKey_comm k (seg f a m) (seg f m b)]
  intro u hu v hv
  obtain ⟨i, i1, i2, rfl⟩ := mem_seg hu
  obtain ⟨j, j1, j2, rfl⟩ := mem_seg hv
  exact hk i j i1 i2 j1 j2

/-! ### exchanges -/
/-- the labels at i and j exchanged -/
def swp (f : Nat → Lab) (i j : Nat) : Nat → Lab := fun x => if x = j then f i else if x = i then f j else f x
/-- two rows of n labels exchanged -/
def swpF (f : Nat → Lab) (a b n : Nat) : Nat → Lab := fun x =>
  if a ≤ x ∧ x < a + n then f (x + (b - a)) else if b ≤ x ∧ x < b + n then f (x - (b - a)) else f x

theorem swp_adj (f : Nat → Lab) (a : Nat) : swp f a (a + 1) = rotF f a (a + 1) (a + 2) := by
  funext x
  unfold swp rotF
  repeat' split
  all_goals first | rfl | (exfalso; omega) | (congr 1; omega)
theorem swp_comm (f : Nat → Lab) (i j : Nat) : swp f i j = swp f j i := by
  funext x
  unfold swp
  by_cases h1 : x = j
  · by_cases h2 : x = i
    · rw [if_pos h1, if_pos h2, ← h1, ← h2]
    · rw [if_pos h1, if_neg h2, if_pos h1]
  · by_cases h2 : x = i
    · rw [if_neg h1, if_pos h2, if_pos h2]
    · rw [if_neg h1, if_neg h2, if_neg h2, if_neg h1]
/-- one label wandering up -/
theorem rot_up (f : Nat → Lab) (a k : Nat) (h : a ≤ k) : swp (rotF f a (a + 1) (k + 1)) k (k + 1) = rotF f a (a + 1) (k + 2) := by
  funext x
  unfold swp rotF
  repeat' split
  all_goals first | rfl | (exfalso; omega) | (congr 1; omega)
/-- one label wandering down -/
theorem rot_down (f : Nat → Lab) (k m : Nat) (h1 : 1 ≤ k) (h : k ≤ m) : swp (rotF f k m (m + 1)) k (k - 1) = rotF f (k - 1) m (m + 1) := by
  funext x
  unfold swp rotF
  repeat' split
  all_goals first | rfl | (exfalso; omega) | (congr 1; omega)
theorem rotF_nil (f : Nat → Lab) (a m : Nat) : rotF f a m m = f := by
  funext x
  unfold rotF
  repeat' split
  all_goals first | rfl | (exfalso; omega) | (congr 1; omega)
theorem rotF_nil' (f : Nat → Lab) (m b : Nat) (h : m ≤ b) : rotF f m m b = f := by
  funext x
  unfold rotF
  repeat' split
  all_goals first | rfl | (exfalso; omega) | (congr 1; omega)
theorem swpF_zero (f : Nat → Lab) (a b : Nat) : swpF f a b 0 = f := by
  funext x
  unfold swpF
  rw [if_neg (by omega), if_neg (by omega)]
theorem swpF_step (f : Nat → Lab) (a b n : Nat) (h : a + n < b) : swp (swpF f a b n) (a + n) (b + n) = swpF f a b (n + 1) := by
  funext x
  unfold swp swpF
  repeat' split
  all_goals first | rfl | (exfalso; omega) | (congr 1; omega)
/-! ### rotate's three steps -/
theorem rot_step_gt (f : Nat → Lab) (m i j : Nat) (hi : i ≤ m) (hj : 0 < j) (h : j < i) : rotF (swpF f (m - i) m j) (m - (i - j)) m (m + j) = rotF f (m - i) m (m + j) := by
  funext x
  by_cases h0 : x < m - i ∨ m + j ≤ x
  · rw [rotF_out (by omega) (by omega) (by omega), rotF_out (by omega) (by omega) h0]
    unfold swpF
    rw [if_neg (by omega), if_neg (by omega)]
  · by_cases h1 : x < m - i + j
    · rw [rotF_out (by omega) (by omega) (by omega), rotF_lo (by omega) (by omega)]
      unfold swpF
      rw [if_pos (by omega)]
    · rw [rotF_hi (x := x) (a := m - i) (by omega) (by omega)]
      by_cases h2 : x < m - (i - j) + (m + j - m)
      · rw [rotF_lo (by omega) h2]
        unfold swpF
        rw [if_neg (by omega), if_pos (by omega)]
        congr 1; omega
      · rw [rotF_hi (by omega) (by omega)]
        unfold swpF
        rw [if_neg (by omega), if_neg (by omega)]
theorem rot_step_lt (f : Nat → Lab) (m i j : Nat) (hi : i ≤ m) (hi0 : 0 < i) (h : i < j) : rotF (swpF f (m - i) (m + j - i) i) (m - i) m (m + (j - i)) = rotF f (m - i) m (m + j) := by
  funext x
  by_cases h0 : x < m - i ∨ m + j ≤ x
  · rw [rotF_out (by omega) (by omega) (by omega), rotF_out (by omega) (by omega) h0]
    unfold swpF
    rw [if_neg (by omega), if_neg (by omega)]
  · by_cases h1 : m + (j - i) ≤ x
    · rw [rotF_out (by omega) (by omega) (by omega), rotF_hi (by omega) (by omega)]
      unfold swpF
      rw [if_neg (by omega), if_pos (by omega)]
      congr 1; omega
    · rw [rotF_lo (x := x) (a := m - i) (b := m + j) (by omega) (by omega)]
      by_cases h2 : x < m - i + (m + (j - i) - m)
      · rw [rotF_lo (by omega) h2]
        unfold swpF
        rw [if_neg (by omega), if_neg (by omega)]
      · rw [rotF_hi (by omega) (by omega)]
        unfold swpF
        rw [if_pos (by omega)]
        congr 1; omega
theorem rot_last (f : Nat → Lab) (m i : Nat) (hi : i ≤ m) : swpF f (m - i) m i = rotF f (m - i) m (m + i) := by
  funext x
  by_cases h0 : x < m - i ∨ m + i ≤ x
  · rw [rotF_out (by omega) (by omega) h0]
    unfold swpF
    rw [if_neg (by omega), if_neg (by omega)]
  · by_cases h1 : x < m
    · rw [rotF_lo (by omega) (by omega)]
      unfold swpF
      rw [if_pos (by omega)]
    · rw [rotF_hi (by omega) (by omega)]
      unfold swpF
      rw [if_neg (by omega), if_pos (by omega)]
      congr 1; omega
end Go.Proofs.Ybulkafyg
