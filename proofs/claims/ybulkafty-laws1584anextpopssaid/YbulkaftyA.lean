/-
  The due queue: push, by its contract.
-/
import Derived.Test.YbulkaftyB
import Derived.Deep.AppendLies
namespace Go.Proofs.Ybulkafty
open Go.RowKit

/-- w' is w with new blocks, and with writes to the blocks of S alone -/
structure Chg (w w' : World) (S : Nat → Prop) : Prop where
  os : w'.os = w.os
  tape : w'.tape = w.tape
  output : w'.output = w.output
  size : w.heap.size ≤ w'.heap.size
  block : ∀ k, k < w.heap.size → ¬ S k → w'.heap[k]? = w.heap[k]?

theorem Chg.refl (w : World) (S : Nat → Prop) : Chg w w S := ⟨rfl, rfl, rfl, Nat.le_refl _, fun _ _ _ => rfl⟩
theorem Chg.drew {w w' : World} {S : Nat → Prop} (h : Chg w w' S) : Chg w w'.drew S := ⟨h.os, h.tape, h.output, h.size, h.block⟩
theorem Chg.alloc {w w' : World} {S : Nat → Prop} (h : Chg w w' S) (o : Obj) : Chg w (w'.alloc o) S :=
  ⟨h.os, h.tape, h.output, Nat.le_trans h.size (by simp), fun k hk hs => (Deep.blk_alloc_lt _ _ _ (Nat.lt_of_lt_of_le hk h.size)).trans (h.block k hk hs)⟩
theorem Chg.setCell {w w' : World} {S : Nat → Prop} (h : Chg w w' S) {a : Addr} (ha : S a.block ∨ w.heap.size ≤ a.block) (v : Value) : Chg w (w'.setCell a v) S :=
  ⟨h.os, h.tape, h.output, by simpa [World.setCell] using h.size, fun k hk hs => (Deep.blk_setCell_other _ _ _ _ (by rintro rfl; rcases ha with ha | ha; exact hs ha; omega)).trans (h.block k hk hs)⟩
theorem Chg.grown {w w' w'' : World} {S : Nat → Prop} (h : Chg w w' S) {row : Option Nat} (hg : w'.grownBy w'' row) (hr : ∀ k, row = some k → S k ∨ w.heap.size ≤ k) : Chg w w'' S :=
  ⟨hg.os.trans h.os, hg.tape.trans h.tape, hg.output.trans h.output, Nat.le_trans h.size hg.size, fun k hk hs =>
    (hg.block k (Nat.lt_of_lt_of_le hk h.size) (by rintro rfl; rcases hr k rfl with h1 | h1; exact hs h1; omega)).trans (h.block k hk hs)⟩
theorem Chg.trans {w w' w'' : World} {S S' : Nat → Prop} (h : Chg w w' S) (h' : Chg w' w'' S') (hs : ∀ k, S' k → S k ∨ w.heap.size ≤ k) : Chg w w'' S :=
  ⟨h'.os.trans h.os, h'.tape.trans h.tape, h'.output.trans h.output, Nat.le_trans h.size h'.size, fun k hk hn =>
    (h'.block k (Nat.lt_of_lt_of_le hk h.size) (fun e => by rcases hs k e with h1 | h1; exact hn h1; omega)).trans (h.block k hk hn)⟩
theorem Chg.below {B : Nat} {a w w' : World} {S : Nat → Prop} (h : Chg w w' S) (hb : Below B a w) (hB : B ≤ w.heap.size) (hs : ∀ k, S k → B ≤ k) : Below B a w' :=
  hb.trans ⟨h.os, h.tape, h.output, h.size, fun k hk => h.block k (by omega) (fun e => by have := hs k e; omega)⟩

theorem info30 : (Yba.prog.info? 30).map (fun i => (i.zero, i.size, i.bytes)) = some (some (.slice none 0 0), 1, 24) := by kernel_rfl
theorem info3 : (Yba.prog.info? 3).map (fun i => (i.zero, i.size, i.bytes)) = some (some (.int .i64 0), 1, 8) := by kernel_rfl

/-- the queue's block -/
def QIs (w : World) (Q : Nat) (v : Value) (tot : Int) : Prop := w.heap[Q]? = some (.cells #[v, .int .i64 tot] 28 (0, 0))
section
variable {w : World} {Q : Nat} {v : Value} {tot : Int}
theorem QIs.cell0 (h : QIs w Q v tot) : w.cell? ⟨Q, 0, none⟩ = some v := by unfold QIs at h; simp [World.cell?, h]
theorem QIs.cell1 (h : QIs w Q v tot) : w.cell? ⟨Q, 1, none⟩ = some (.int .i64 tot) := by unfold QIs at h; simp [World.cell?, h]
theorem QIs.free (h : QIs w Q v tot) (i : Nat) : w.frozen? ⟨Q, i, none⟩ = false := by unfold QIs at h; simp [World.frozen?, h]
theorem QIs.lt (h : QIs w Q v tot) : Q < w.heap.size := by unfold QIs at h; exact (Array.getElem?_eq_some_iff.1 h).1
theorem QIs.set0 (h : QIs w Q v tot) (u : Value) : QIs (w.setCell ⟨Q, 0, none⟩ u) Q u tot := by unfold QIs at *; simp [World.setCell, Array.getElem?_modify, h]
theorem QIs.set1 (h : QIs w Q v tot) (x : Int) : QIs (w.setCell ⟨Q, 1, none⟩ (.int .i64 x)) Q v x := by unfold QIs at *; simp [World.setCell, Array.getElem?_modify, h]
theorem QIs.chg (h : QIs w Q v tot) {w' : World} {S : Nat → Prop} (hc : Chg w w' S) (hs : ¬ S Q) : QIs w' Q v tot := by unfold QIs at *; rw [hc.block Q (Array.getElem?_eq_some_iff.1 h).1 hs]; exact h
end

theorem owns_form {w : World} {base : Nat} {e : TypeId} {size : Nat} {v : Value} {n : Nat} {xs : List Value} (h : w.ownsRow base e size v n xs) : ∃ ao cap, v = .slice ao n cap := by
  rcases h.2 with ⟨rfl, rfl⟩ | ⟨g, cap, cur, rfl, _⟩
  · exact ⟨none, 0, rfl⟩
  · exact ⟨_, _, rfl⟩

theorem q_push_none (Q : Nat) (a : Option Addr) (c : Nat) (w : World) :
    Calls Yba.prog 8 #[.pointer (some ⟨Q, 0, none⟩), .slice a 0 c] w fun e w' => e = .returned (.tuple #[]) ∧ w' = w := by
  go_enter Yba.func8, Yba.ntmps8
  go_wp2
  go_end0
  exact ⟨rfl, rfl⟩

set_option maxHeartbeats 400000 in
theorem q_push (Q g len : Nat) (v : Value) (m : Nat) (xs : List Value) (tot : Nat) (w : World) (hq : QIs w Q v tot) (hown : w.ownsRow (Q + 1) 30 1 v m xs) (hlen : 0 < len) (hl : len ≤ 256) (hm : m ≤ 256) (ht : tot ≤ 65536) :
    Calls Yba.prog 8 #[.pointer (some ⟨Q, 0, none⟩), .slice (some ⟨g, 0, none⟩) len len] w fun e w' => e = .returned (.tuple #[]) ∧ ∃ x cap,
      QIs w' Q (.slice (some ⟨x, 0, none⟩) (m + 1) cap) ((tot : Int) + len) ∧ w'.ownsRow (Q + 1) 30 1 (.slice (some ⟨x, 0, none⟩) (m + 1) cap) (m + 1) (xs ++ [.slice (some ⟨g, 0, none⟩) len len]) ∧
      Chg w w' (fun k => k = Q ∨ v.ownBlock = some k) := by
  obtain ⟨i0, hi, hz0, hz1, hz2⟩ := info_parts info30
  obtain ⟨ao, cp, rfl⟩ := owns_form hown
  have c0 := hq.cell0
  have hQ := hq.lt
  go_enter Yba.func8, Yba.ntmps8
  go_wp2_with (at_builtin; refine wpList_append_lies _ rfl _ _ 26 rfl (Q + 1) 30 i0 (.slice none 0 0) 1 24 Yba.underlying26 hi hz0 hz1 hz2 rfl (by decide) _ m xs rfl (hown.alloc _) ⟨w.heap.size, 0, none⟩ 1 1 [.slice (some ⟨g, 0, none⟩) len len] rfl rfl ?c1 ?c2 (by omega) (by unfold maxLen; omega) (by omega) ?c3 _ rfl ?_)
  case c1 => exact fun j u hu => World.news_of_block (Deep.blk_alloc_new _ _) j u (by simpa using hu)
  case c2 => intro u hu; simp at hu; subst hu; rfl
  case c3 => simp; omega
  intro x cap w1 hown1 hgrow hat hlt
  have hc := ((Chg.refl w (fun k => k = Q ∨ (Value.slice ao m cp).ownBlock = some k)).alloc (.cells #[.slice (some ⟨g, 0, none⟩) len len] 30)).grown hgrow (fun k hk => .inl (.inr hk))
  have hne : ∀ k, (Value.slice ao m cp).ownBlock = some k → Q ≠ k := fun k hk => by have := (hown.lt k hk).1; omega
  have hq1 : QIs w1 Q (.slice ao m cp) tot := by
    have h0 := ((Chg.refl w (fun k => (Value.slice ao m cp).ownBlock = some k)).alloc (.cells #[.slice (some ⟨g, 0, none⟩) len len] 30)).grown hgrow (fun k hk => .inl hk)
    exact hq.chg h0 (fun e => hne Q e rfl)
  have hq2 := hq1.set0 (.slice (some ⟨x, 0, none⟩) (m + 1) cap)
  have hfin := hq2.set1 ((tot : Int) + len)
  have d0 := hq1.cell0
  have d1 := hq1.cell1
  have e0 := hq1.free 0
  have e1 := hq1.free 1
  have hx : Q + 1 ≤ x := (hown1.lt x rfl).1
  have hown2 := ownsRow_setCell_below (ownsRow_setCell_below hown1 (a := ⟨Q, 0, none⟩) (by simp) (.slice (some ⟨x, 0, none⟩) (m + 1) cap)) (a := ⟨Q, 1, none⟩) (by simp) (.int .i64 ((tot : Int) + len))
  have hc2 := (hc.setCell (a := ⟨Q, 0, none⟩) (.inl (.inl rfl)) (.slice (some ⟨x, 0, none⟩) (m + 1) cap)).setCell (a := ⟨Q, 1, none⟩) (.inl (.inl rfl)) (.int .i64 ((tot : Int) + len))
  clear hown1 hgrow hat hc hq1 hq2 hq hown c0 hne
  go_wp2
  go_end0
  exact ⟨rfl, x, cap, hfin, hown2, hc2⟩
end Go.Proofs.Ybulkafty
