/-
  The due queue: pop and next, by their contracts.
-/
import Derived.Test.YbulkaftyA
import Derived.RegionTactic
import Derived.BigRegion
namespace Go.Proofs.Ybulkafty
open Go.RowKit

/-- the queue with n lists left, from place h of the row X on (k places up to its end); the first has c tasks left, list r has K r; list r lies in block G r and holds E r -/
structure Que (w : World) (Q X h n k c : Nat) (tot : Int) (G K : Nat → Nat) (D E : Nat → Nat → Int) : Prop where
  q : ∃ al, QIs w Q (.slice al n k) tot ∧ (0 < n → al = some ⟨X, h, none⟩)
  row : ∃ f, w.rowIs X 30 (h + k) f ∧ ∀ r, h ≤ r → r < h + n → f r = .slice (some ⟨G r, 0, none⟩) (if r = h then c else K r) (K r)
  nk : n ≤ k
  first : 0 < n → 1 ≤ c ∧ c ≤ K h
  list : ∀ r, h ≤ r → r < h + n → ListIs w (G r) (K r) (D r) (E r) ∧ 1 ≤ K r ∧ K r ≤ 256

section
variable {w : World} {Q X h n k c : Nat} {tot : Int} {G K : Nat → Nat} {D E : Nat → Nat → Int}
theorem Que.qx (u : Que w Q X h n k c tot G K D E) : Q ≠ X := by
  rintro rfl
  obtain ⟨al, hq, _⟩ := u.q
  obtain ⟨f, ⟨cs, hb, _⟩, _⟩ := u.row
  unfold QIs at hq
  rw [hb] at hq
  simp at hq
theorem Que.gx (u : Que w Q X h n k c tot G K D E) (r : Nat) (h1 : h ≤ r) (h2 : r < h + n) : G r ≠ X ∧ G r ≠ Q := by
  obtain ⟨al, hq, _⟩ := u.q
  obtain ⟨f, ⟨cs, hb, _⟩, _⟩ := u.row
  obtain ⟨⟨f2, ⟨cs2, hb2, _⟩, _⟩, _⟩ := u.list r h1 h2
  constructor
  · intro e; rw [e, hb] at hb2; simp at hb2
  · intro e; unfold QIs at hq; rw [e, hq] at hb2; simp at hb2
theorem Que.move {w' : World} (u : Que w Q X h n k c tot G K D E) (hb : ∀ j, (j = Q ∨ j = X ∨ ∃ r, h ≤ r ∧ r < h + n ∧ j = G r) → w'.heap[j]? = w.heap[j]?) : Que w' Q X h n k c tot G K D E := by
  refine ⟨?_, ?_, u.nk, u.first, fun r h1 h2 => ?_⟩
  · obtain ⟨al, hq, ha⟩ := u.q
    exact ⟨al, by unfold QIs at *; rw [hb Q (.inl rfl)]; exact hq, ha⟩
  · obtain ⟨f, hr, hf⟩ := u.row
    exact ⟨f, hr.of_block (hb X (.inr (.inl rfl))), hf⟩
  · obtain ⟨⟨f, hr, hf⟩, hK⟩ := u.list r h1 h2
    exact ⟨⟨f, hr.of_block (hb (G r) (.inr (.inr ⟨r, h1, h2, rfl⟩))), hf⟩, hK⟩
theorem Que.lt (u : Que w Q X h n k c tot G K D E) : ∀ j, (j = Q ∨ j = X ∨ ∃ r, h ≤ r ∧ r < h + n ∧ j = G r) → j < w.heap.size := by
  rintro j (rfl | rfl | ⟨r, h1, h2, rfl⟩)
  · obtain ⟨al, hq, _⟩ := u.q; exact hq.lt
  · obtain ⟨f, hr, _⟩ := u.row; exact hr.lt
  · exact (u.list r h1 h2).1.lt
theorem Que.alloc (u : Que w Q X h n k c tot G K D E) (o : Obj) : Que (w.alloc o) Q X h n k c tot G K D E :=
  u.move (fun j hj => Deep.blk_alloc_lt _ _ _ (u.lt j hj))
theorem Que.drew (u : Que w Q X h n k c tot G K D E) : Que w.drew Q X h n k c tot G K D E := u.move (fun _ _ => rfl)
theorem Que.chg {w' : World} {S : Nat → Prop} (u : Que w Q X h n k c tot G K D E) (hc : Chg w w' S) (hs : ∀ j, (j = Q ∨ j = X ∨ ∃ r, h ≤ r ∧ r < h + n ∧ j = G r) → ¬ S j) : Que w' Q X h n k c tot G K D E :=
  u.move (fun j hj => hc.block j (u.lt j hj) (hs j hj))

theorem que_many (u : Que w Q X h n k c tot G K D E) (hn : 0 < n) (hc : 1 < c) :
    Que ((w.setCell ⟨X, h, none⟩ (.slice (some ⟨G h, 0, none⟩) (c - 1) (K h))).setCell ⟨Q, 1, none⟩ (.int .i64 (tot - 1))) Q X h n k (c - 1) (tot - 1) G K D E := by
  have hqx := u.qx
  refine ⟨?_, ?_, u.nk, fun _ => ?_, fun r h1 h2 => ?_⟩
  · obtain ⟨al, hq, ha⟩ := u.q
    refine ⟨al, ?_, ha⟩
    have hq' : QIs (w.setCell ⟨X, h, none⟩ (.slice (some ⟨G h, 0, none⟩) (c - 1) (K h))) Q (.slice al n k) tot := by
      unfold QIs at *; rw [Deep.blk_setCell_other _ _ _ _ hqx]; exact hq
    exact hq'.set1 _
  · obtain ⟨f, hr, hf⟩ := u.row
    refine ⟨_, (hr.set h (.slice (some ⟨G h, 0, none⟩) (c - 1) (K h))).setOther (fun e => hqx e.symm) _, fun r h1 h2 => ?_⟩
    by_cases e : r = h
    · subst e; simp
    · simp only [if_neg e]
      have := hf r h1 h2
      rw [if_neg e] at this
      exact this
  · have := u.first hn
    omega
  · obtain ⟨hl, hK⟩ := u.list r h1 h2
    obtain ⟨g1, g2⟩ := u.gx r h1 h2
    exact ⟨(hl.other g1 _).other g2 _, hK⟩

theorem que_last (u : Que w Q X h n k c tot G K D E) (hn : 0 < n) (al : Option Addr) (ha : 1 < n → al = some ⟨X, h + 1, none⟩) (v : Value) :
    Que (((w.setCell ⟨X, h, none⟩ v).setCell ⟨Q, 1, none⟩ (.int .i64 (tot - 1))).setCell ⟨Q, 0, none⟩ (.slice al (n - 1) (k - 1))) Q X (h + 1) (n - 1) (k - 1) (K (h + 1)) (tot - 1) G K D E := by
  have hqx := u.qx
  have hnk := u.nk
  refine ⟨?_, ?_, by omega, fun h0 => ?_, fun r h1 h2 => ?_⟩
  · obtain ⟨al0, hq, _⟩ := u.q
    refine ⟨al, ?_, fun h0 => ha (by omega)⟩
    have hq' : QIs (w.setCell ⟨X, h, none⟩ v) Q (.slice al0 n k) tot := by
      unfold QIs at *; rw [Deep.blk_setCell_other _ _ _ _ hqx]; exact hq
    exact (hq'.set1 _).set0 _
  · obtain ⟨f, hr, hf⟩ := u.row
    have hr2 := ((hr.set h v).setOther (a := ⟨Q, 1, none⟩) (fun e => hqx e.symm) (.int .i64 (tot - 1))).setOther (a := ⟨Q, 0, none⟩) (fun e => hqx e.symm) (.slice al (n - 1) (k - 1))
    refine ⟨_, by rw [show h + 1 + (k - 1) = h + k by omega]; exact hr2, fun r h1 h2 => ?_⟩
    have h3 := hf r (by omega) (by omega)
    rw [if_neg (by omega)] at h3
    rw [if_neg (by omega), h3]
    by_cases e : r = h + 1
    · subst e; simp
    · rw [if_neg e]
  · have := (u.list (h + 1) (by omega) (by omega)).2
    omega
  · obtain ⟨hl, hK⟩ := u.list r (by omega) (by omega)
    obtain ⟨g1, g2⟩ := u.gx r (by omega) (by omega)
    exact ⟨((hl.other g1 _).other g2 _).other g2 _, hK⟩
end

set_option maxRecDepth 100000 in
set_option maxHeartbeats 400000 in
theorem q_pop_many (w : World) (Q X h n k c : Nat) (tot : Int) (G K : Nat → Nat) (D E : Nat → Nat → Int) (u : Que w Q X h n k c tot G K D E) (hn : 0 < n) (hn1 : n ≤ 256) (hc : 1 < c) (ht : 0 < tot ∧ tot ≤ 65536) :
    Calls Yba.prog 9 #[.pointer (some ⟨Q, 0, none⟩)] w fun e w' => ∃ x, e = .returned (.tuple #[.int .u32 (E h (c - 1)), x]) ∧ Que w' Q X h n k (c - 1) (tot - 1) G K D E ∧ Chg w w' (fun j => j = Q ∨ j = X) := by
  have hqx := u.qx
  obtain ⟨hgx, hgq⟩ := u.gx h (Nat.le_refl _) (by omega)
  obtain ⟨al, hq, hal⟩ := u.q
  obtain ⟨f, hr, hf⟩ := u.row
  obtain ⟨hl, hK⟩ := u.list h (Nat.le_refl _) (by omega)
  obtain ⟨hc1, hcK⟩ := u.first hn
  have hnk := u.nk
  obtain rfl := hal hn
  have c0 := hq.cell0
  have c1 := hq.cell1
  have f0 := hq.free 0
  have f1 := hq.free 1
  have x0 := hr.cell (i := h) (by omega)
  rw [hf h (Nat.le_refl _) (by omega), if_pos rfl] at x0
  have y0 := hr.frozen h
  have l0 := hl.cell0 (k := c - 1) (by omega)
  have l1 := hl.cell1 (k := c - 1) (by omega)
  have hQl := hq.lt
  have hXl := hr.lt
  have hGl := hl.lt
  have hce : ((c : Int) == 1) = false := by simp; omega
  clear hq hr hf hl
  go_enter Yba.func9, Yba.ntmps9
  go_wp2
  go_region
  go_wp2
  go_ret2
  refine ⟨_, rfl, ((que_many u hn hc).alloc _).drew, ?_⟩
  exact ((((Chg.refl w _).setCell (a := ⟨X, h, none⟩) (.inl (.inr rfl)) _).setCell (a := ⟨Q, 1, none⟩) (.inl (.inl rfl)) _).alloc _).drew

set_option maxRecDepth 100000 in
set_option maxHeartbeats 400000 in
theorem q_pop_last (w : World) (Q X h n k : Nat) (tot : Int) (G K : Nat → Nat) (D E : Nat → Nat → Int) (u : Que w Q X h n k 1 tot G K D E) (hn : 0 < n) (hn1 : n ≤ 256) (hk1 : k ≤ maxLen) (ht : 0 < tot ∧ tot ≤ 65536) :
    Calls Yba.prog 9 #[.pointer (some ⟨Q, 0, none⟩)] w fun e w' => ∃ x, e = .returned (.tuple #[.int .u32 (E h 0), x]) ∧ Que w' Q X (h + 1) (n - 1) (k - 1) (K (h + 1)) (tot - 1) G K D E ∧ Chg w w' (fun j => j = Q ∨ j = X) := by
  have hqx := u.qx
  obtain ⟨hgx, hgq⟩ := u.gx h (Nat.le_refl _) (by omega)
  obtain ⟨al, hq, hal⟩ := u.q
  obtain ⟨f, hr, hf⟩ := u.row
  obtain ⟨hl, hK⟩ := u.list h (Nat.le_refl _) (by omega)
  have hnk := u.nk
  obtain rfl := hal hn
  have c0 := hq.cell0
  have c1 := hq.cell1
  have f0 := hq.free 0
  have f1 := hq.free 1
  have x0 := hr.cell (i := h) (by omega)
  rw [hf h (Nat.le_refl _) (by omega), if_pos rfl] at x0
  have y0 := hr.frozen h
  have l0 := hl.cell0 (k := 0) (by omega)
  have l1 := hl.cell1 (k := 0) (by omega)
  simp only [Nat.zero_mul, Nat.zero_add] at l0 l1
  have hQl := hq.lt
  have hXl := hr.lt
  have hGl := hl.lt
  unfold maxLen at hk1
  clear hq hr hf hl
  by_cases hk : k = 1
  · subst hk
    obtain rfl : n = 1 := by omega
    go_enter Yba.func9, Yba.ntmps9
    go_wp2
    go_region
    go_wp2
    go_ret2
    refine ⟨_, rfl, ((que_last u hn (some ⟨X, h, none⟩) (by omega) (.slice (some ⟨G h, 0, none⟩) 0 (K h))).alloc _).drew, ?_⟩
    exact (((((Chg.refl w _).setCell (a := ⟨X, h, none⟩) (.inl (.inr rfl)) _).setCell (a := ⟨Q, 1, none⟩) (.inl (.inl rfl)) _).setCell (a := ⟨Q, 0, none⟩) (.inl (.inl rfl)) _).alloc _).drew
  · have hk' : ¬ k = 1 := hk
    go_enter Yba.func9, Yba.ntmps9
    go_wp2
    go_region
    go_wp2
    go_ret2
    refine ⟨_, rfl, ((que_last u hn (some ⟨X, h + 1, none⟩) (fun _ => rfl) (.slice (some ⟨G h, 0, none⟩) 0 (K h))).alloc _).drew, ?_⟩
    exact (((((Chg.refl w _).setCell (a := ⟨X, h, none⟩) (.inl (.inr rfl)) _).setCell (a := ⟨Q, 1, none⟩) (.inl (.inl rfl)) _).setCell (a := ⟨Q, 0, none⟩) (.inl (.inl rfl)) _).alloc _).drew

theorem q_next_nil (w : World) (Q : Nat) (v : Value) (a : Int) (hq : QIs w Q v 0) :
    Calls Yba.prog 10 #[.pointer (some ⟨Q, 0, none⟩), .int .i64 a] w fun e w' => e = .returned (.slice none 0 0) ∧ w' = w := by
  have c1 := hq.cell1
  clear hq
  go_enter Yba.func10, Yba.ntmps10
  go_wp2
  go_ret
  exact ⟨rfl, rfl⟩

/-- what next answers: the last min(a, c) tasks of the first list -/
def NextPost (G : Nat → Nat) (h c a : Nat) (w : World) (e : Ending) (w' : World) : Prop :=
  ∃ al cp, e = .returned (.slice (some al) (min a c) cp) ∧ (0 < min a c → al = ⟨G h, (c - min a c) * 2, none⟩) ∧ w' = w
theorem next1 (G : Nat → Nat) (h c a : Nat) (w : World) (_hac : a ≤ c) (hK : c ≤ c - a) (cp : Nat) : NextPost G h c a w (.returned (.slice (some ⟨G h, 0, none⟩) (c - (c - a)) cp)) w :=
  ⟨_, cp, by rw [show c - (c - a) = min a c by omega], fun _ => by omega, rfl⟩
theorem next2 (G : Nat → Nat) (h c a : Nat) (w : World) (_hac : a ≤ c) (cp : Nat) : NextPost G h c a w (.returned (.slice (some ⟨G h, (c - a) * 2, none⟩) (c - (c - a)) cp)) w :=
  ⟨_, cp, by rw [show c - (c - a) = min a c by omega], fun _ => by rw [show c - a = c - min a c by omega], rfl⟩
theorem next3 (G : Nat → Nat) (h c a : Nat) (w : World) (_hac : c < a) (cp : Nat) : NextPost G h c a w (.returned (.slice (some ⟨G h, 0, none⟩) c cp)) w := by
  have e : min a c = c := by omega
  refine ⟨_, cp, by rw [e], fun _ => ?_, rfl⟩
  rw [e]; simp

set_option maxRecDepth 100000 in
set_option maxHeartbeats 400000 in
theorem q_next (w : World) (Q X h n k c : Nat) (tot : Int) (G K : Nat → Nat) (D E : Nat → Nat → Int) (u : Que w Q X h n k c tot G K D E) (hn : 0 < n) (hn1 : n ≤ 256) (ht : 0 < tot ∧ tot ≤ 65536) (a : Nat) (ha : a ≤ 1048576) :
    Calls Yba.prog 10 #[.pointer (some ⟨Q, 0, none⟩), .int .i64 a] w (NextPost G h c a w) := by
  obtain ⟨al, hq, hal⟩ := u.q
  obtain ⟨f, hr, hf⟩ := u.row
  obtain ⟨hl, hK⟩ := u.list h (Nat.le_refl _) (by omega)
  obtain ⟨hc1, hcK⟩ := u.first hn
  have hnk := u.nk
  obtain rfl := hal hn
  have c0 := hq.cell0
  have c1 := hq.cell1
  have x0 := hr.cell (i := h) (by omega)
  rw [hf h (Nat.le_refl _) (by omega), if_pos rfl] at x0
  have htz : (tot == 0) = false := by simp; omega
  clear hq hr hf hl u
  by_cases hac : a ≤ c
  · by_cases hKc : K h = c - a
    · go_enter Yba.func10, Yba.ntmps10
      go_wp2
      go_ret
      exact next1 G h c a w hac (by omega) _
    · go_enter Yba.func10, Yba.ntmps10
      go_wp2
      go_ret
      exact next2 G h c a w hac _
  · have hca : c < a := by omega
    clear hac
    go_enter Yba.func10, Yba.ntmps10
    go_wp2
    go_ret
    exact next3 G h c a w hca _
end Go.Proofs.Ybulkafty
