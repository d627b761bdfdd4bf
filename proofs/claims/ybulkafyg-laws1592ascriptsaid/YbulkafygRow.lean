/-
  What has turned between two worlds; a row of labels in memory.
-/
import Derived.Test.YbulkafygRows
import Derived.Test.YbulkafygMerge
import Derived.WalkKit
import Derived.ProofKit
import Derived.OpenShut
import Derived.Laws.NewBlocks
import Derived.Deep.OwnRows
import Derived.WalkLawsBesides
import Derived.WalkSpells
import Derived.RegionTactic
import Derived.BigRegion
import Derived.Deep.RegionWith
import Derived.BigQuiet
import Derived.Deep.QuietTactic
import Derived.Lib.Bytealg
namespace Go.Proofs.Ybulkafyg
open Go.RowKit

/-- w' is w with new blocks, and with writes to the blocks of S alone -/
structure Chg (w w' : World) (S : Nat → Prop) : Prop where
  os : w'.os = w.os
  tape : w'.tape = w.tape
  output : w'.output = w.output
  size : w.heap.size ≤ w'.heap.size
  block : ∀ k, k < w.heap.size → ¬ S k → w'.heap[k]? = w.heap[k]?

theorem Chg.refl (w : World) (S : Nat → Prop) : Chg w w S := ⟨rfl, rfl, rfl, Nat.le_refl _, fun _ _ _ => rfl⟩
theorem Chg.drew {w w' : World} {S : Nat → Prop} (h : Chg w w' S) : Chg w w'.drew S := ⟨h.os, h.tape, h.output, h.size, h.block⟩
theorem Chg.alloc {w w' : World} {S : Nat → Prop} (h : Chg w w' S) (o : Obj) : Chg w (w'.alloc o) S :=
  ⟨h.os, h.tape, h.output, Nat.le_trans h.size (by simp), fun k hk hs => (Deep.blk_alloc_lt _ _ _ (Nat.lt_of_lt_of_le hk h.size)).trans (h.block k hk hs)⟩
theorem Chg.setCell {w w' : World} {S : Nat → Prop} (h : Chg w w' S) {a : Addr} (ha : S a.block ∨ w.heap.size ≤ a.block) (v : Value) : Chg w (w'.setCell a v) S :=
  ⟨h.os, h.tape, h.output, by simpa [World.setCell] using h.size, fun k hk hs => (Deep.blk_setCell_other _ _ _ _ (by rintro rfl; rcases ha with ha | ha; exact hs ha; omega)).trans (h.block k hk hs)⟩
theorem Chg.grown {w w' w'' : World} {S : Nat → Prop} (h : Chg w w' S) {row : Option Nat} (hg : w'.grownBy w'' row) (hr : ∀ k, row = some k → S k ∨ w.heap.size ≤ k) : Chg w w'' S :=
  ⟨hg.os.trans h.os, hg.tape.trans h.tape, hg.output.trans h.output, Nat.le_trans h.size hg.size, fun k hk hs =>
    (hg.block k (Nat.lt_of_lt_of_le hk h.size) (by rintro rfl; rcases hr k rfl with h1 | h1; exact hs h1; omega)).trans (h.block k hk hs)⟩
theorem Chg.trans {w w' w'' : World} {S S' : Nat → Prop} (h : Chg w w' S) (h' : Chg w' w'' S') (hs : ∀ k, S' k → S k ∨ w.heap.size ≤ k) : Chg w w'' S :=
  ⟨h'.os.trans h.os, h'.tape.trans h.tape, h'.output.trans h.output, Nat.le_trans h.size h'.size, fun k hk hn =>
    (h'.block k (Nat.lt_of_lt_of_le hk h.size) (fun e => by rcases hs k e with h1 | h1; exact hn h1; omega)).trans (h.block k hk hn)⟩
theorem Chg.below {B : Nat} {a w w' : World} {S : Nat → Prop} (h : Chg w w' S) (hb : Below B a w) (hB : B ≤ w.heap.size) (hs : ∀ k, S k → B ≤ k) : Below B a w' :=
  hb.trans ⟨h.os, h.tape, h.output, h.size, fun k hk => h.block k (by omega) (fun e => by have := hs k e; omega)⟩


/-- block b is a row of labels; the first cap of them are f -/
def LRow (w : World) (b cap : Nat) (f : Nat → Lab) : Prop := ∃ N g, cap * 2 ≤ N ∧ w.rowIs b 58 N g ∧ ∀ i, i < cap → g (i * 2) = .string (f i).1 ∧ g (i * 2 + 1) = .string (f i).2

section
variable {w : World} {b cap k : Nat} {f : Nat → Lab}
theorem LRow.cell0 (h : LRow w b cap f) (hk : k < cap) : w.cell? ⟨b, k * 2, none⟩ = some (.string (f k).1) := by
  obtain ⟨N, g, hN, hr, hf⟩ := h
  rw [hr.cell (by omega), (hf k hk).1]
theorem LRow.cell1 (h : LRow w b cap f) (hk : k < cap) : w.cell? ⟨b, k * 2 + 1, none⟩ = some (.string (f k).2) := by
  obtain ⟨N, g, hN, hr, hf⟩ := h
  rw [hr.cell (by omega), (hf k hk).2]
theorem LRow.free (h : LRow w b cap f) (i : Nat) : w.frozen? ⟨b, i, none⟩ = false := by
  obtain ⟨N, g, hN, hr, _⟩ := h
  exact hr.frozen i
theorem LRow.lt (h : LRow w b cap f) : b < w.heap.size := by
  obtain ⟨N, g, hN, hr, _⟩ := h
  exact hr.lt
theorem LRow.of_block {w' : World} (h : LRow w b cap f) (e : w'.heap[b]? = w.heap[b]?) : LRow w' b cap f := by
  obtain ⟨N, g, hN, hr, hf⟩ := h
  exact ⟨N, g, hN, hr.of_block e, hf⟩
theorem LRow.alloc (h : LRow w b cap f) (o : Obj) : LRow (w.alloc o) b cap f := h.of_block (Deep.blk_alloc_lt _ _ _ h.lt)
theorem LRow.drew (h : LRow w b cap f) : LRow w.drew b cap f := h
theorem LRow.other (h : LRow w b cap f) {a : Addr} (ha : b ≠ a.block) (v : Value) : LRow (w.setCell a v) b cap f := h.of_block (Deep.blk_setCell_other _ _ _ _ ha)
theorem LRow.chg {w' : World} {S : Nat → Prop} (h : LRow w b cap f) (hc : Chg w w' S) (hs : ¬ S b) : LRow w' b cap f := h.of_block (hc.block b h.lt hs)
theorem LRow.congr {g : Nat → Lab} (h : LRow w b cap f) (e : ∀ i, i < cap → f i = g i) : LRow w b cap g := by
  obtain ⟨N, v, hN, hr, hf⟩ := h
  exact ⟨N, v, hN, hr, fun i hi => by rw [← e i hi]; exact hf i hi⟩
theorem LRow.set (h : LRow w b cap f) (_hk : k < cap) (x : Lab) :
    LRow ((w.setCell ⟨b, k * 2, none⟩ (.string x.1)).setCell ⟨b, k * 2 + 1, none⟩ (.string x.2)) b cap (fun j => if j = k then x else f j) := by
  obtain ⟨N, g, hN, hr, hf⟩ := h
  refine ⟨N, _, hN, (hr.set (k * 2) _).set (k * 2 + 1) _, fun j hj => ?_⟩
  by_cases e : j = k
  · subst e; simp
  · simp only [if_neg e]
    rw [if_neg (by omega), if_neg (by omega), if_neg (by omega), if_neg (by omega)]
    exact hf j hj
theorem LRow.swap (h : LRow w b cap f) {i j : Nat} (hi : i < cap) (hj : j < cap) :
    LRow ((((w.setCell ⟨b, i * 2, none⟩ (.string (f j).1)).setCell ⟨b, i * 2 + 1, none⟩ (.string (f j).2)).setCell ⟨b, j * 2, none⟩ (.string (f i).1)).setCell ⟨b, j * 2 + 1, none⟩ (.string (f i).2)) b cap (swp f i j) :=
  ((h.set hi (f j)).set hj (f i)).congr (fun x _ => by unfold swp; rfl)
end
theorem chg_swap {w : World} {b i j : Nat} {u v x y : Value} : Chg w ((((w.setCell ⟨b, i * 2, none⟩ u).setCell ⟨b, i * 2 + 1, none⟩ v).setCell ⟨b, j * 2, none⟩ x).setCell ⟨b, j * 2 + 1, none⟩ y) (fun k => k = b) :=
  ((((Chg.refl w (fun k => k = b)).setCell (a := ⟨b, i * 2, none⟩) (.inl rfl) _).setCell (a := ⟨b, i * 2 + 1, none⟩) (.inl rfl) _).setCell (a := ⟨b, j * 2, none⟩) (.inl rfl) _).setCell (a := ⟨b, j * 2 + 1, none⟩) (.inl rfl) _

/-! ### comparing names -/
theorem cmp_lt : ∀ (x y : List UInt8), Lib.compareBytes x y < 0 ↔ ltB x y = true
  | [], [] => by simp [Lib.compareBytes, ltB, Op.bytesLess]
  | [], _ :: _ => by simp [Lib.compareBytes, ltB, Op.bytesLess]
  | _ :: _, [] => by simp [Lib.compareBytes, ltB, Op.bytesLess]
  | a :: x, b :: y => by
    have ih := cmp_lt x y
    unfold ltB at *
    simp only [Lib.compareBytes, Op.bytesLess, Bool.or_eq_true, decide_eq_true_eq, Bool.and_eq_true, beq_iff_eq]
    by_cases h1 : a < b
    · simp [h1]
    · by_cases h2 : b < a
      · have : ¬ a = b := by rintro rfl; exact h1 h2
        simp [h1, h2, this]
      · have e : a = b := UInt8.le_antisymm (UInt8.not_lt.1 h2) (UInt8.not_lt.1 h1)
        subst e
        simp [h1, ih]
theorem cmp_bd : ∀ (x y : List UInt8), -1 ≤ Lib.compareBytes x y ∧ Lib.compareBytes x y ≤ 1
  | [], [] => by simp [Lib.compareBytes]
  | [], _ :: _ => by simp [Lib.compareBytes]
  | _ :: _, [] => by simp [Lib.compareBytes]
  | a :: x, b :: y => by
    have ih := cmp_bd x y
    simp only [Lib.compareBytes]
    split
    · omega
    · split
      · omega
      · exact ih

theorem c_cmpstring (a b : ByteArray) (w : World) : (callFunc 28 #[.string a, .string b]).run Yba.prog w = .ok (.value (.int .i64 (Lib.compareBytes a.data.toList b.data.toList))) w := by
  rw [run_callFunc_extern Yba.func28 (by kernel_rfl) (by kernel_rfl) (by kernel_rfl) (e := Extern.BytealgCompare.compare) (by kernel_rfl)]
  rw [Lib.run_compareString]
  rfl

/-- the label as a value -/
def labV (x : Lab) : Value := .agg #[.string x.1, .string x.2]
def labO (x : Lab) : Obj := .cells #[.string x.1, .string x.2] 58

/-- sortLabels' comparing function -/
theorem c_cmp (x y : Lab) (w : World) : Calls Yba.prog 22 #[.agg #[.string x.1, .string x.2], .agg #[.string y.1, .string y.2]] w fun e w' =>
    e = .returned (.int .i64 (Lib.compareBytes x.1.data.toList y.1.data.toList)) ∧ w' = (w.alloc (.cells #[.string x.1, .string x.2] 58)).alloc (.cells #[.string y.1, .string y.2] 58) := by
  have hc := c_cmpstring
  go_enter Yba.func22, Yba.ntmps22
  go_wp2
  go_ret
  exact ⟨rfl, rfl⟩
end Go.Proofs.Ybulkafyg
