/-
  zzs1584bsetup by its contract.
-/
import Derived.Test.YbulkaftyB
import Derived.RegionTactic
import Derived.BigRegion
namespace Go.Proofs.Ybulkafty
open Go.RowKit

/-- what setup has laid by the head of its first loop's round k -/
structure Mid (w wr : World) (k : Nat) : Prop where
  chunk : ChunkIs wr w.heap.size (fun j => if j < k then j + 5000 else 0)
  top : wr.cell? ⟨w.heap.size + 1, 0, none⟩ = some (.slice (some ⟨w.heap.size, 0, none⟩) 1024 1024)
  lev : wr.cell? ⟨w.heap.size + 1 + 1, 71, none⟩ = some (.slice (some ⟨w.heap.size + 1, 0, none⟩) 1 1)
  size : wr.heap.size = w.heap.size + 3
  below : Below w.heap.size w wr

theorem mid_step {w wr : World} {k : Nat} (h : Mid w wr k) (hk : k < 1024) : Mid w (wr.setCell ⟨w.heap.size, k * 5 + 3, none⟩ (.int .u32 ((k : Int) + 5000))) (k + 1) := by
  refine ⟨?_, ?_, ?_, ?_, h.below.setCell (Nat.le_refl _) _⟩
  · refine (h.chunk.set hk _).congr fun j _ => ?_
    by_cases e : j = k
    · subst e; simp
    · simp only [if_neg e]
      by_cases g : j < k
      · rw [if_pos g, if_pos (by omega)]
      · rw [if_neg g, if_neg (by omega)]
  · rw [World.cell?_setCell_other _ _ _ _ (by simp)]; exact h.top
  · rw [World.cell?_setCell_other _ _ _ _ (by simp)]; exact h.lev
  · simpa [World.setCell] using h.size

/-- what setup leaves: the levels' block t, the one-cell block c that leads to the chunk d, and the list l, all new and apart -/
structure Laid (w w' : World) (d c t l n : Nat) (A D E : Nat → Int) : Prop where
  chunk : ChunkIs w' d A
  top : w'.cell? ⟨c, 0, none⟩ = some (.slice (some ⟨d, 0, none⟩) 1024 1024)
  lev : w'.cell? ⟨t, 71, none⟩ = some (.slice (some ⟨c, 0, none⟩) 1 1)
  list : ListIs w' l n D E
  new : w.heap.size ≤ d ∧ w.heap.size ≤ c ∧ w.heap.size ≤ t ∧ w.heap.size ≤ l
  apart : d ≠ c ∧ d ≠ t ∧ d ≠ l ∧ c ≠ t ∧ c ≠ l ∧ t ≠ l
  below : Below w.heap.size w w'

theorem laid_new {w wr : World} (h : Mid w wr 1024) (n : Nat) :
    Laid w (wr.alloc (.cells (list0 n) 34)) w.heap.size (w.heap.size + 1) (w.heap.size + 1 + 1) wr.heap.size n (fun j => j + 5000) (fun _ => 0) (fun _ => 0) := by
  have hs := h.size
  refine ⟨(h.chunk.alloc _).congr fun j hj => by rw [if_pos hj], ?_, ?_, list_new n wr, by omega, by omega, h.below.alloc (by omega) _⟩
  · rw [World.cell?_alloc_past _ _ _ (by omega)]; exact h.top
  · rw [World.cell?_alloc_past _ _ _ (by omega)]; exact h.lev

theorem laid_set {w w' : World} {d c t l n k : Nat} {A D E : Nat → Int} (h : Laid w w' d c t l n A D E) (hk : k < n) (x y : Int) :
    Laid w ((w'.setCell ⟨l, k * 2, none⟩ (.int .u64 x)).setCell ⟨l, k * 2 + 1, none⟩ (.int .u32 y)) d c t l n A (fun j => if j = k then x else D j) (fun j => if j = k then y else E j) := by
  obtain ⟨a1, a2, a3, a4, a5, a6⟩ := h.apart
  obtain ⟨n1, n2, n3, n4⟩ := h.new
  refine ⟨(h.chunk.other a3 _).other a3 _, ?_, ?_, h.list.set hk x y, h.new, h.apart, (h.below.setCell n4 _).setCell n4 _⟩
  · rw [World.cell?_setCell_other _ _ _ _ (by simp <;> omega), World.cell?_setCell_other _ _ _ _ (by simp <;> omega)]; exact h.top
  · rw [World.cell?_setCell_other _ _ _ _ (by simp <;> omega), World.cell?_setCell_other _ _ _ _ (by simp <;> omega)]; exact h.lev

theorem Laid.drew {w w' : World} {d c t l n : Nat} {A D E : Nat → Int} (h : Laid w w' d c t l n A D E) : Laid w w'.drew d c t l n A D E :=
  ⟨h.chunk, h.top, h.lev, h.list, h.new, h.apart, h.below.drew⟩
theorem Laid.congr {w w' : World} {d c t l n : Nat} {A D E D' E' : Nat → Int} (h : Laid w w' d c t l n A D E) (e : ∀ j, j < n → D j = D' j ∧ E j = E' j) : Laid w w' d c t l n A D' E' :=
  ⟨h.chunk, h.top, h.lev, h.list.congr e, h.new, h.apart, h.below⟩

theorem laid_step {w w' : World} {d c t l n k : Nat} {A D E : Nat → Int} (h : Laid w w' d c t l n A (fun j => if j < k then D j else 0) (fun j => if j < k then E j else 0)) (hk : k < n) :
    Laid w ((w'.setCell ⟨l, k * 2, none⟩ (.int .u64 (D k))).setCell ⟨l, k * 2 + 1, none⟩ (.int .u32 (E k))) d c t l n A (fun j => if j < k + 1 then D j else 0) (fun j => if j < k + 1 then E j else 0) := by
  refine (laid_set h hk (D k) (E k)).congr fun j _ => ?_
  by_cases e : j = k
  · subst e; simp
  · simp only [if_neg e]
    by_cases g : j < k
    · rw [if_pos g, if_pos g, if_pos (by omega), if_pos (by omega)]; exact ⟨rfl, rfl⟩
    · rw [if_neg g, if_neg g, if_neg (by omega), if_neg (by omega)]; exact ⟨rfl, rfl⟩

theorem zero61 (w : World) : (zeroValue 61).run Yba.prog w = .ok (.agg #[.int .u64 0, .int .u64 0, .int .u8 0, .int .u8 0, .int .u8 0, .int .u8 0, .int .u8 0, .int .u8 0, .int .u8 0, .int .u8 0, .int .u8 0, .int .u8 0, .int .u8 0, .int .u8 0, .int .u8 0, .int .u8 0, .int .u8 0, .int .u8 0, .int .u8 0, .int .u8 0, .int .u8 0, .int .u8 0, .int .u8 0, .int .u8 0, .int .u8 0, .int .u8 0, .int .u8 0, .int .u8 0, .int .u8 0, .int .u8 0, .int .u8 0, .int .u8 0, .int .u8 0, .int .u8 0, .int .u8 0, .int .u8 0, .int .u8 0, .int .u8 0, .int .u8 0, .int .u8 0, .int .u8 0, .int .u8 0, .int .u8 0, .int .u8 0, .int .u8 0, .int .u8 0, .int .u8 0, .int .u8 0, .int .u8 0, .int .u8 0, .int .u8 0, .int .u8 0, .int .u8 0, .int .u8 0, .int .u8 0, .int .u8 0, .int .u8 0, .int .u8 0, .int .u8 0, .int .u8 0, .int .u8 0, .int .u8 0, .int .u8 0, .int .u8 0, .int .u8 0, .int .u8 0, .int .u8 0, .slice none 0 0, .slice none 0 0, .slice none 0 0, .slice none 0 0, .slice none 0 0, .int .u32 0, .int .u32 0, .int .u64 0, .slice none 0 0, .int .u64 0, .slice none 0 0, .slice none 0 0, .slice none 0 0, .int .i64 0, .slice none 0 0]) w := by kernel_rfl

set_option maxRecDepth 100000 in
set_option maxHeartbeats 1600000 in
theorem b_setup (b off n cap : Nat) (D E : Nat → Int) (w : World) (hn : n ≤ 1024)
    (hD : ∀ i, i < n → w.cell? ⟨b, off + i * 2, none⟩ = some (.int .u64 (D i))) (hE : ∀ i, i < n → w.cell? ⟨b, off + i * 2 + 1, none⟩ = some (.int .u16 (E i)))
    (hE0 : ∀ i, i < n → 0 ≤ E i ∧ E i ≤ 65535) (hb : b < w.heap.size) :
    Calls Yba.prog 11 #[.slice (some ⟨b, off, none⟩) n cap] w fun e w' => ∃ d c t l,
      e = .returned (.tuple #[.pointer (some ⟨t, 0, none⟩), .slice (some ⟨l, 0, none⟩) n n]) ∧ Laid w w' d c t l n (fun j => j + 5000) D (fun i => E i % 1024) := by
  have hm45 := mk45
  have hz61 := zero61
  have hm30 := mk30 n hn
  go_enter Yba.func11, Yba.ntmps11
  go_wp2
  go_loopw [5] (fun i wr => ∃ k : Nat, k ≤ 1024 ∧ i = .int .i64 k ∧ Mid w wr k) (fun i _ => 1024 - (intOf i).toNat)
  case atStart =>
    refine ⟨0, Nat.zero_le _, rfl, ⟨?_, ?_, ?_, by simp, ((((Below.refl _ _).alloc (Nat.le_refl _) _).alloc (by simp) _).alloc (by simp <;> omega) _)⟩⟩
    · exact (((chunk_new w).alloc _).alloc _)
    · simp [go_sem]
    · simp [go_sem]
  case round =>
    obtain ⟨k, hk, rfl, hm⟩ := hrel
    have ht := hm.top
    have hl := hm.lev
    by_cases hlt : k < 1024
    · have hc := hm.chunk.cell hlt
      have hf := hm.chunk.free (k * 5 + 3)
      have hst := mid_step hm hlt
      clear hm hm45 hz61 hm30 hD hE hE0
      go_wp2
      go_roundw
      case rel => exact ⟨k + 1, by omega, by go_num, hst⟩
      case measure => simp [intOf]; omega
    · have hk1 : k = 1024 := by omega
      subst hk1
      have hmid : Laid w (wr.alloc (.cells (list0 n) 34)) w.heap.size (w.heap.size + 1) (w.heap.size + 1 + 1) wr.heap.size n (fun j => j + 5000) (fun _ => 0) (fun _ => 0) := laid_new hm n
      clear hm
      go_wp2
      go_loopw [7] (fun i w2 => ∃ k : Nat, k ≤ n ∧ i = .int .i64 k ∧ Laid w w2 w.heap.size (w.heap.size + 1) (w.heap.size + 1 + 1) wr.heap.size n (fun j => j + 5000) (fun j => if j < k then D j else 0) (fun j => if j < k then E j % 1024 else 0)) (fun i _ => n - (intOf i).toNat)
      case atStart => exact ⟨0, Nat.zero_le _, rfl, by simpa using hmid⟩
      case round =>
        obtain ⟨k, hk, rfl, hm⟩ := hrel
        by_cases hlt : k < n
        · have c0 := hm.list.cell0 hlt
          have c1 := hm.list.cell1 hlt
          have f0 := hm.list.free (k * 2)
          have f1 := hm.list.free (k * 2 + 1)
          have i0 := (hm.below.cell (p := ⟨b, off + k * 2, none⟩) hb).trans (hD k hlt)
          have i1 := (hm.below.cell (p := ⟨b, off + k * 2 + 1, none⟩) hb).trans (hE k hlt)
          have eb := hE0 k hlt
          have hand := and_1023 (E k) (by omega) (by omega)
          have hst := laid_step hm hlt
          clear hm hm45 hz61 hm30 hD hE hE0 hmid ht hl
          go_wp2
          go_region
          all_goals
            go_wp2
            go_roundw
            case rel => exact ⟨k + 1, by omega, by go_num, hst.drew⟩
            case measure => simp [intOf]; omega
        · have hfin := hm.congr (D' := D) (E' := fun i => E i % 1024) (fun j hj => by rw [if_pos (by omega), if_pos (by omega)]; exact ⟨rfl, rfl⟩)
          clear hm hmid
          go_wp2
          go_ret2
          exact ⟨_, _, _, _, rfl, hfin⟩
end Go.Proofs.Ybulkafty
