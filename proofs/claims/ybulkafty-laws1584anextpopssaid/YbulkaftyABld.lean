/-
  The building of the queue in LawS1584ANextPops: what each round leaves, without the walk.
-/
import Derived.Test.YbulkaftyAPop
namespace Go.Proofs.Ybulkafty
open Go.RowKit

/-- the sum of the first i lengths -/
def sumTo (L : Nat → Nat) : Nat → Nat
  | 0 => 0
  | i + 1 => sumTo L i + L i
theorem sumTo_le (L : Nat → Nat) (i : Nat) (h : ∀ j, j < i → L j ≤ 256) : sumTo L i ≤ i * 256 := by
  induction i with
  | zero => simp [sumTo]
  | succ i ih => have := ih (fun j hj => h j (by omega)); have := h i (by omega); simp only [sumTo]; omega

/-- what the rounds of the building loop have laid: GS: the lists that are queued: block and index -/
structure Bld (w wr : World) (i N : Nat) (L : Nat → Nat) (Z : Nat → Nat → Int) (vl vi vm : Value) (GS : List (Nat × Nat)) : Prop where
  q : QIs wr w.heap.size vl (sumTo L i : Nat)
  lists : wr.ownsRow (w.heap.size + 1) 30 1 vl GS.length (GS.map fun p => .slice (some ⟨p.1, 0, none⟩) (L p.2) (L p.2))
  idx : wr.ownsRow (w.heap.size + 1) 3 1 vi GS.length (GS.map fun p => .int .i64 p.2)
  lens : wr.ownsRow (w.heap.size + 1) 3 1 vm GS.length (GS.map fun p => .int .i64 (L p.2))
  blocks : ∀ p ∈ GS, ListIs wr p.1 (L p.2) (fun _ => p.2) (Z p.2) ∧ 0 < L p.2 ∧ p.2 < N
  apart : ∀ g, vi.ownBlock = some g → vm.ownBlock = some g → False
  below : Below w.heap.size w wr
  len : GS.length ≤ i
  sum : (GS.map fun p => L p.2).sum = sumTo L i

theorem owns_type {w : World} {b1 b2 : Nat} {e1 e2 : TypeId} {s1 s2 : Nat} {v1 v2 : Value} {n1 n2 : Nat} {x1 x2 : List Value} (h1 : w.ownsRow b1 e1 s1 v1 n1 x1) (h2 : w.ownsRow b2 e2 s2 v2 n2 x2) (hne : e1 ≠ e2)
    (g : Nat) (k1 : v1.ownBlock = some g) (k2 : v2.ownBlock = some g) : False := by
  rcases h1.2 with ⟨rfl, _⟩ | ⟨g1, c1, u1, rfl, _, a1, _⟩
  · cases k1
  rcases h2.2 with ⟨rfl, _⟩ | ⟨g2, c2, u2, rfl, _, a2, _⟩
  · cases k2
  simp [Value.ownBlock] at k1 k2
  subst k1; subst k2
  rw [a1] at a2
  simp at a2
  exact hne a2.2
theorem owns_list {w : World} {b1 : Nat} {e1 : TypeId} {s1 : Nat} {v1 : Value} {n1 : Nat} {x1 : List Value} (h1 : w.ownsRow b1 e1 s1 v1 n1 x1) (hne : e1 ≠ 34) {l n : Nat} {D E : Nat → Int} (hl : ListIs w l n D E) (k1 : v1.ownBlock = some l) : False := by
  rcases h1.2 with ⟨rfl, _⟩ | ⟨g1, c1, u1, rfl, _, a1, _⟩
  · cases k1
  obtain ⟨f, ⟨cs, hb, _⟩, _⟩ := hl
  simp [Value.ownBlock] at k1
  subst k1
  rw [a1] at hb
  simp at hb
  exact hne hb.2
theorem q_list {w : World} {Q : Nat} {v : Value} {t : Int} (hq : QIs w Q v t) {l n : Nat} {D E : Nat → Int} (hl : ListIs w l n D E) : l ≠ Q := by
  rintro rfl
  obtain ⟨f, ⟨cs, hb, _⟩, _⟩ := hl
  unfold QIs at hq
  rw [hq] at hb
  simp at hb
theorem ListIs.chg {w w' : World} {l n : Nat} {D E : Nat → Int} (h : ListIs w l n D E) {S : Nat → Prop} (hc : Chg w w' S) (hs : ¬ S l) : ListIs w' l n D E := by
  have hl := h.lt
  obtain ⟨f, hr, hf⟩ := h
  exact ⟨f, hr.of_block (hc.block l hl hs), hf⟩
theorem owns_chg {w w' : World} {b : Nat} {e : TypeId} {s : Nat} {v : Value} {n : Nat} {x : List Value} (h : w.ownsRow b e s v n x) {S : Nat → Prop} (hc : Chg w w' S) (hs : ∀ g, v.ownBlock = some g → ¬ S g) : w'.ownsRow b e s v n x := by
  refine ⟨h.1, ?_⟩
  rcases h.2 with h2 | ⟨g, cap, cur, rfl, hb, hg, r⟩
  · exact .inl h2
  · exact .inr ⟨g, cap, cur, rfl, hb, by rw [hc.block g (Array.getElem?_eq_some_iff.1 hg).1 (hs g rfl)]; exact hg, r⟩

/-- nothing old has turned -/
theorem Bld.still {w wr w1 : World} {i N : Nat} {L : Nat → Nat} {Z : Nat → Nat → Int} {vl vi vm : Value} {GS : List (Nat × Nat)} (h : Bld w wr i N L Z vl vi vm GS) (hc : Chg wr w1 (fun _ => False)) : Bld w w1 i N L Z vl vi vm GS :=
  ⟨h.q.chg hc id, owns_chg h.lists hc (fun _ _ => id), owns_chg h.idx hc (fun _ _ => id), owns_chg h.lens hc (fun _ _ => id), fun p hp => ⟨(h.blocks p hp).1.chg hc id, (h.blocks p hp).2⟩, h.apart,
    hc.below h.below h.below.size (fun _ e => e.elim), h.len, h.sum⟩

/-- an empty list: nothing is queued -/
theorem Bld.empty {w wr : World} {i N : Nat} {L : Nat → Nat} {Z : Nat → Nat → Int} {vl vi vm : Value} {GS : List (Nat × Nat)} (h : Bld w wr i N L Z vl vi vm GS) (h0 : L i = 0) : Bld w wr (i + 1) N L Z vl vi vm GS :=
  ⟨by have := h.q; simpa [sumTo, h0] using this, h.lists, h.idx, h.lens, h.blocks, h.apart, h.below, by have := h.len; omega, by simp [sumTo, h0, h.sum]⟩

/-- behind push: the queue holds one list more; the two rows still lack it -/
structure Mid1 (w wr : World) (i N : Nat) (L : Nat → Nat) (Z : Nat → Nat → Int) (vl vi vm : Value) (GS : List (Nat × Nat)) (g : Nat) : Prop where
  q : QIs wr w.heap.size vl (sumTo L (i + 1) : Nat)
  lists : wr.ownsRow (w.heap.size + 1) 30 1 vl (GS.length + 1) ((GS ++ [(g, i)]).map fun p => .slice (some ⟨p.1, 0, none⟩) (L p.2) (L p.2))
  idx : wr.ownsRow (w.heap.size + 1) 3 1 vi GS.length (GS.map fun p => .int .i64 p.2)
  lens : wr.ownsRow (w.heap.size + 1) 3 1 vm GS.length (GS.map fun p => .int .i64 (L p.2))
  blocks : ∀ p ∈ GS ++ [(g, i)], ListIs wr p.1 (L p.2) (fun _ => p.2) (Z p.2) ∧ 0 < L p.2 ∧ p.2 < N
  apart : ∀ g, vi.ownBlock = some g → vm.ownBlock = some g → False
  below : Below w.heap.size w wr
  len : GS.length ≤ i
  sum : (GS.map fun p => L p.2).sum = sumTo L i

theorem bld_push {w w1 w2 : World} {i N : Nat} {L : Nat → Nat} {Z : Nat → Nat → Int} {vl vi vm vl' : Value} {GS : List (Nat × Nat)} {g : Nat} (h : Bld w w1 i N L Z vl vi vm GS) (hg : ListIs w1 g (L i) (fun _ => i) (Z i)) (hpos : 0 < L i) (hiN : i < N)
    (hq : QIs w2 w.heap.size vl' ((sumTo L i : Nat) + (L i : Nat))) (ho : w2.ownsRow (w.heap.size + 1) 30 1 vl' (GS.length + 1) ((GS.map fun p => .slice (some ⟨p.1, 0, none⟩) (L p.2) (L p.2)) ++ [.slice (some ⟨g, 0, none⟩) (L i) (L i)]))
    (hc : Chg w1 w2 (fun k => k = w.heap.size ∨ vl.ownBlock = some k)) : Mid1 w w2 i N L Z vl' vi vm GS g := by
  have hlist : ∀ {l n : Nat} {D E : Nat → Int}, ListIs w1 l n D E → ListIs w2 l n D E := fun hl => hl.chg hc (by
    rintro (e | e)
    · exact q_list h.q hl e
    · exact owns_list h.lists (by decide) hl e)
  refine ⟨by simpa [sumTo] using hq, by simpa using ho, owns_chg h.idx hc ?_, owns_chg h.lens hc ?_, ?_, h.apart, hc.below h.below h.below.size ?_, h.len, h.sum⟩
  · rintro k hk (e | e)
    · have := (h.idx.lt k hk).1; omega
    · exact owns_type h.lists h.idx (by decide) k e hk
  · rintro k hk (e | e)
    · have := (h.lens.lt k hk).1; omega
    · exact owns_type h.lists h.lens (by decide) k e hk
  · intro p hp
    rcases List.mem_append.1 hp with hp | hp
    · exact ⟨hlist (h.blocks p hp).1, (h.blocks p hp).2⟩
    · simp at hp; subst hp
      exact ⟨hlist hg, hpos, hiN⟩
  · rintro k (e | e)
    · omega
    · have := (h.lists.lt k e).1; omega

/-- behind the append to mIdx -/
structure Mid2 (w wr : World) (i N : Nat) (L : Nat → Nat) (Z : Nat → Nat → Int) (vl vi vm : Value) (GS : List (Nat × Nat)) (g : Nat) : Prop where
  q : QIs wr w.heap.size vl (sumTo L (i + 1) : Nat)
  lists : wr.ownsRow (w.heap.size + 1) 30 1 vl (GS.length + 1) ((GS ++ [(g, i)]).map fun p => .slice (some ⟨p.1, 0, none⟩) (L p.2) (L p.2))
  idx : wr.ownsRow (w.heap.size + 1) 3 1 vi (GS.length + 1) ((GS ++ [(g, i)]).map fun p => .int .i64 p.2)
  lens : wr.ownsRow (w.heap.size + 1) 3 1 vm GS.length (GS.map fun p => .int .i64 (L p.2))
  blocks : ∀ p ∈ GS ++ [(g, i)], ListIs wr p.1 (L p.2) (fun _ => p.2) (Z p.2) ∧ 0 < L p.2 ∧ p.2 < N
  apart : ∀ g, vi.ownBlock = some g → vm.ownBlock = some g → False
  below : Below w.heap.size w wr
  len : GS.length ≤ i
  sum : (GS.map fun p => L p.2).sum = sumTo L i

theorem bld_idx {w w1 w2 : World} {i N : Nat} {L : Nat → Nat} {Z : Nat → Nat → Int} {vl vi vm : Value} {GS : List (Nat × Nat)} {g x cap : Nat} (h : Mid1 w w1 i N L Z vl vi vm GS g) (o : Obj)
    (ho : w2.ownsRow (w.heap.size + 1) 3 1 (.slice (some ⟨x, 0, none⟩) (GS.length + 1) cap) (GS.length + 1) ((GS.map fun p => .int .i64 p.2) ++ [.int .i64 i]))
    (hg : (w1.alloc o).grownBy w2 vi.ownBlock) (hat : vi.ownBlock = some x ∨ x = w1.heap.size + 1) : Mid2 w w2 i N L Z vl (.slice (some ⟨x, 0, none⟩) (GS.length + 1) cap) vm GS g := by
  have hc : Chg w1 w2 (fun k => vi.ownBlock = some k) := ((Chg.refl w1 _).alloc o).grown hg (fun k hk => .inl hk)
  refine ⟨h.q.chg hc (fun e => by have := (h.idx.lt _ e).1; omega), owns_chg h.lists hc (fun k hk e => owns_type h.lists h.idx (by decide) k hk e), by simpa using ho, owns_chg h.lens hc (fun k hk e => h.apart k e hk),
    fun p hp => ⟨(h.blocks p hp).1.chg hc (fun e => owns_list h.idx (by decide) (h.blocks p hp).1 e), (h.blocks p hp).2⟩, ?_, hc.below h.below h.below.size (fun k hk => by have := (h.idx.lt k hk).1; omega), h.len, h.sum⟩
  intro k hk hm
  simp [Value.ownBlock] at hk
  subst hk
  rcases hat with e | e
  · exact h.apart _ e hm
  · have := (h.lens.lt _ hm).2; omega

theorem bld_lens {w w1 w2 : World} {i N : Nat} {L : Nat → Nat} {Z : Nat → Nat → Int} {vl vi vm : Value} {GS : List (Nat × Nat)} {g x cap : Nat} (h : Mid2 w w1 i N L Z vl vi vm GS g) (o : Obj)
    (ho : w2.ownsRow (w.heap.size + 1) 3 1 (.slice (some ⟨x, 0, none⟩) (GS.length + 1) cap) (GS.length + 1) ((GS.map fun p => .int .i64 (L p.2)) ++ [.int .i64 (L i)]))
    (hg : (w1.alloc o).grownBy w2 vm.ownBlock) (hat : vm.ownBlock = some x ∨ x = w1.heap.size + 1) : Bld w w2 (i + 1) N L Z vl vi (.slice (some ⟨x, 0, none⟩) (GS.length + 1) cap) (GS ++ [(g, i)]) := by
  have hc : Chg w1 w2 (fun k => vm.ownBlock = some k) := ((Chg.refl w1 _).alloc o).grown hg (fun k hk => .inl hk)
  have e1 : (GS ++ [(g, i)]).length = GS.length + 1 := by simp
  refine ⟨h.q.chg hc (fun e => by have := (h.lens.lt _ e).1; omega), by rw [e1]; exact owns_chg h.lists hc (fun k hk e => owns_type h.lists h.lens (by decide) k hk e), by rw [e1]; exact owns_chg h.idx hc (fun k hk e => h.apart k hk e), by rw [e1]; simpa using ho,
    fun p hp => ⟨(h.blocks p hp).1.chg hc (fun e => owns_list h.lens (by decide) (h.blocks p hp).1 e), (h.blocks p hp).2⟩, ?_, hc.below h.below h.below.size (fun k hk => by have := (h.lens.lt k hk).1; omega), by have := h.len; omega, by simp [sumTo, h.sum]⟩
  intro k hi hk
  simp [Value.ownBlock] at hk
  subst hk
  rcases hat with e | e
  · exact h.apart _ hi e
  · have := (h.idx.lt _ hi).2; omega
end Go.Proofs.Ybulkafty
