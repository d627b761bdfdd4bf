/-
  Plain: the order of byte strings; a stable sort is determined by its being sorted and by the labels of each name in their order.
-/
import GoSem.Op.String
namespace Go.Proofs.Ybulkafyg

abbrev Lab := ByteArray × ByteArray
/-- strictly before -/
def ltB (x y : List UInt8) : Bool := Op.bytesLess x y

theorem ltB_irrefl : ∀ x, ltB x x = false
  | [] => by simp [ltB, Op.bytesLess]
  | a :: x => by
    have ih := ltB_irrefl x
    unfold ltB at *
    simp [Op.bytesLess, ih]
theorem ltB_trans : ∀ x y z, ltB x y = true → ltB y z = true → ltB x z = true
  | _, [], _, h, _ => by simp [ltB, Op.bytesLess] at h
  | _, _ :: _, [], _, h => by simp [ltB, Op.bytesLess] at h
  | [], _ :: _, _ :: _, _, _ => by simp [ltB, Op.bytesLess]
  | a :: x, b :: y, c :: z, h1, h2 => by
    have ih := ltB_trans x y z
    unfold ltB at *
    simp only [Op.bytesLess, Bool.or_eq_true, decide_eq_true_eq, Bool.and_eq_true, beq_iff_eq] at *
    rcases h1 with h1 | ⟨h1, g1⟩ <;> rcases h2 with h2 | ⟨h2, g2⟩
    · exact .inl (UInt8.lt_trans h1 h2)
    · subst h2; exact .inl h1
    · subst h1; exact .inl h2
    · subst h1; subst h2; exact .inr ⟨rfl, ih g1 g2⟩
theorem ltB_total : ∀ x y, ltB x y = false → ltB y x = false → x = y
  | [], [], _, _ => rfl
  | [], _ :: _, h, _ => by simp [ltB, Op.bytesLess] at h
  | _ :: _, [], _, h => by simp [ltB, Op.bytesLess] at h
  | a :: x, b :: y, h1, h2 => by
    have ih := ltB_total x y
    unfold ltB at *
    simp only [Op.bytesLess, Bool.or_eq_false_iff, decide_eq_false_iff_not, Bool.and_eq_false_imp, beq_iff_eq] at *
    have e : a = b := by
      have := h1.1; have := h2.1
      exact UInt8.le_antisymm (UInt8.not_lt.1 h2.1) (UInt8.not_lt.1 h1.1)
    subst e
    rw [ih (h1.2 rfl) (h2.2 rfl)]

/-- the name's bytes -/
def key (l : Lab) : List UInt8 := l.1.toList
/-- not behind -/
def leB (x y : Lab) : Prop := ltB (key y) (key x) = false
theorem leB_refl (x : Lab) : leB x x := ltB_irrefl _
theorem leB_trans {x y z : Lab} (h1 : leB x y) (h2 : leB y z) : leB x z := by
  unfold leB at *
  cases h : ltB (key z) (key x) with
  | false => rfl
  | true =>
    -- z < x; y >= x so z < y or ..
    cases h3 : ltB (key x) (key y) with
    | true => rw [ltB_trans _ _ _ h h3] at h2; cases h2
    | false => rw [ltB_total _ _ h3 h1] at h; rw [h] at h2; cases h2
theorem leB_of_lt {x y : Lab} (h : ltB (key x) (key y) = true) : leB x y := by
  unfold leB
  cases h2 : ltB (key y) (key x) with
  | false => rfl
  | true => have := ltB_trans _ _ _ h h2; rw [ltB_irrefl] at this; cases this
theorem lt_of_lt_le {x y z : Lab} (h1 : ltB (key x) (key y) = true) (h2 : leB y z) : ltB (key x) (key z) = true := by
  cases h : ltB (key x) (key z) with
  | true => rfl
  | false =>
    cases h3 : ltB (key z) (key x) with
    | true => unfold leB at h2; rw [ltB_trans _ _ _ h3 h1] at h2; cases h2
    | false =>
      have e := ltB_total _ _ h h3
      unfold leB at h2
      rw [← e, h1] at h2
      cases h2
theorem lt_of_le_lt {x y z : Lab} (h1 : leB x y) (h2 : ltB (key y) (key z) = true) : ltB (key x) (key z) = true := by
  cases h : ltB (key x) (key z) with
  | true => rfl
  | false =>
    cases h3 : ltB (key z) (key x) with
    | true => unfold leB at h1; rw [ltB_trans _ _ _ h2 h3] at h1; cases h1
    | false =>
      have e := ltB_total _ _ h h3
      unfold leB at h1
      rw [e, h2] at h1
      cases h1

/-- the labels of one name, in their order -/
def ofKey (k : List UInt8) (xs : List Lab) : List Lab := xs.filter (fun l => key l == k)
def Sorted (xs : List Lab) : Prop := xs.Pairwise leB

/-- TWO SORTED LISTS THAT HOLD THE SAME LABELS OF EACH NAME IN THE SAME ORDER ARE ONE -/
theorem sorted_unique : ∀ (xs ys : List Lab), Sorted xs → Sorted ys → (∀ k, ofKey k xs = ofKey k ys) → xs = ys
  | [], [], _, _, _ => rfl
  | [], y :: ys, _, _, h => by have := h (key y); simp [ofKey] at this
  | x :: xs, [], _, _, h => by have := h (key x); simp [ofKey] at this
  | x :: xs, y :: ys, hx, hy, h => by
    have mem_x : x ∈ ofKey (key x) (y :: ys) := by rw [← h]; simp [ofKey]
    have mem_y : y ∈ ofKey (key y) (x :: xs) := by rw [h]; simp [ofKey]
    have hx' := List.pairwise_cons.1 hx
    have hy' := List.pairwise_cons.1 hy
    have le1 : leB y x := by
      have := (List.mem_filter.1 mem_x).1
      rcases List.mem_cons.1 this with e | e
      · rw [e]; exact leB_refl _
      · exact hy'.1 x e
    have le2 : leB x y := by
      have := (List.mem_filter.1 mem_y).1
      rcases List.mem_cons.1 this with e | e
      · rw [e]; exact leB_refl _
      · exact hx'.1 y e
    have ek : key x = key y := ltB_total _ _ le1 le2
    have hk := h (key x)
    have e1 : ofKey (key x) (x :: xs) = x :: ofKey (key x) xs := by simp [ofKey]
    have e2 : ofKey (key x) (y :: ys) = y :: ofKey (key x) ys := by simp [ofKey, ek]
    rw [e1, e2] at hk
    have exy : x = y := (List.cons.inj hk).1
    subst exy
    have := sorted_unique xs ys hx'.2 hy'.2 (fun k => by
      have hk := h k
      by_cases e : key x = k
      · subst e
        rw [e1, e2] at hk
        exact (List.cons.inj hk).2
      · have c1 : ofKey k (x :: xs) = ofKey k xs := by simp [ofKey, e]
        have c2 : ofKey k (x :: ys) = ofKey k ys := by simp [ofKey, e]
        rw [c1, c2] at hk
        exact hk)
    rw [this]
end Go.Proofs.Ybulkafyg
