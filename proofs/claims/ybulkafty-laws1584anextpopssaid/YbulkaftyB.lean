/-
  The contracts beneath LawS1584BMoveLast and LawS1584BHoldsMoved.
-/
import Derived.Test.YbulkaftyRows
import Derived.WalkKit
import Derived.ProofKit
import Derived.OpenShut
import Derived.Laws.NewBlocks
import Derived.Deep.OwnRows
import Derived.WalkLawsBesides
import Derived.Laws.BitsAllLaws
namespace Go.Proofs.Ybulkafty
open Go.RowKit

theorem and_1023 (x : Int) (h0 : 0 ≤ x) (h1 : x < 4294967296) : bits .and .u32 x 1023 = x % 1024 := by
  rw [u32_and x 1023 h0 h1 (by omega) (by omega)]
  have h : (x.toNat &&& 1023) = x.toNat % 1024 := Nat.and_two_pow_sub_one_eq_mod x.toNat 10
  have e : (1023 : Int).toNat = 1023 := rfl
  rw [e, h]
  omega

set_option maxRecDepth 100000 in
/-- (*tasks).at on the one chunk of 1024 entries (5 cells each) in block d -/
theorem b_at (b c d : Nat) (i : Int) (w : World) (h71 : w.cell? ⟨b, 71, none⟩ = some (.slice (some ⟨c, 0, none⟩) 1 1)) (hc : w.cell? ⟨c, 0, none⟩ = some (.slice (some ⟨d, 0, none⟩) 1024 1024))
    (h0 : 0 ≤ i) (h1 : i < 1024) :
    Calls Yba.prog 17 #[.pointer (some ⟨b, 71, none⟩), .int .u32 i] w fun e w' => e = .returned (.pointer (some ⟨d, i.toNat * 5, none⟩)) ∧ w' = w := by
  have hdiv : i / 1024 = 0 := by omega
  have hand : bits .and .u32 i 1023 = i := by rw [and_1023 i h0 (by omega)]; omega
  go_enter Yba.func17, Yba.ntmps17
  go_wp2
  go_ret
  exact ⟨rfl, rfl⟩

/-- 'w.setCell' and 'w.alloc' let other blocks be; the chunk's and the list's cells by index -/
def ChunkIs (w : World) (d : Nat) (A : Nat → Int) : Prop := ∃ f, w.rowIs d 63 5120 f ∧ ∀ j, j < 1024 → f (j * 5 + 3) = .int .u32 (A j)
def ListIs (w : World) (l n : Nat) (D E : Nat → Int) : Prop := ∃ f, w.rowIs l 34 (n * 2) f ∧ ∀ i, i < n → f (i * 2) = .int .u64 (D i) ∧ f (i * 2 + 1) = .int .u32 (E i)

section
variable {w : World} {d l n k : Nat} {A D E : Nat → Int}
theorem ChunkIs.cell (h : ChunkIs w d A) (hk : k < 1024) : w.cell? ⟨d, k * 5 + 3, none⟩ = some (.int .u32 (A k)) := by
  obtain ⟨f, hr, hf⟩ := h
  rw [hr.cell (by omega), hf k hk]
theorem ChunkIs.free (h : ChunkIs w d A) (i : Nat) : w.frozen? ⟨d, i, none⟩ = false := by
  obtain ⟨f, hr, _⟩ := h
  exact hr.frozen i
theorem ChunkIs.set (h : ChunkIs w d A) (hk : k < 1024) (v : Int) : ChunkIs (w.setCell ⟨d, k * 5 + 3, none⟩ (.int .u32 v)) d (fun j => if j = k then v else A j) := by
  obtain ⟨f, hr, hf⟩ := h
  refine ⟨_, hr.set (k * 5 + 3) _, fun j hj => ?_⟩
  by_cases e : j = k
  · subst e; simp
  · simp only [if_neg e]; rw [if_neg (by omega)]; exact hf j hj
theorem ChunkIs.other (h : ChunkIs w d A) {a : Addr} (ha : d ≠ a.block) (v : Value) : ChunkIs (w.setCell a v) d A := by
  obtain ⟨f, hr, hf⟩ := h
  exact ⟨f, hr.setOther ha v, hf⟩
theorem ChunkIs.alloc (h : ChunkIs w d A) (o : Obj) : ChunkIs (w.alloc o) d A := by
  obtain ⟨f, hr, hf⟩ := h
  exact ⟨f, hr.alloc o, hf⟩
theorem ChunkIs.drew (h : ChunkIs w d A) : ChunkIs w.drew d A := h
theorem ChunkIs.congr (h : ChunkIs w d A) {A' : Nat → Int} (e : ∀ j, j < 1024 → A j = A' j) : ChunkIs w d A' := by
  obtain ⟨f, hr, hf⟩ := h
  exact ⟨f, hr, fun j hj => by rw [hf j hj, e j hj]⟩
theorem ChunkIs.lt (h : ChunkIs w d A) : d < w.heap.size := by
  obtain ⟨f, hr, _⟩ := h
  exact hr.lt

theorem ListIs.cell0 (h : ListIs w l n D E) (hk : k < n) : w.cell? ⟨l, k * 2, none⟩ = some (.int .u64 (D k)) := by
  obtain ⟨f, hr, hf⟩ := h
  rw [hr.cell (by omega), (hf k hk).1]
theorem ListIs.cell1 (h : ListIs w l n D E) (hk : k < n) : w.cell? ⟨l, k * 2 + 1, none⟩ = some (.int .u32 (E k)) := by
  obtain ⟨f, hr, hf⟩ := h
  rw [hr.cell (by omega), (hf k hk).2]
theorem ListIs.free (h : ListIs w l n D E) (i : Nat) : w.frozen? ⟨l, i, none⟩ = false := by
  obtain ⟨f, hr, _⟩ := h
  exact hr.frozen i
theorem ListIs.set (h : ListIs w l n D E) (_hk : k < n) (x y : Int) :
    ListIs ((w.setCell ⟨l, k * 2, none⟩ (.int .u64 x)).setCell ⟨l, k * 2 + 1, none⟩ (.int .u32 y)) l n (fun j => if j = k then x else D j) (fun j => if j = k then y else E j) := by
  obtain ⟨f, hr, hf⟩ := h
  refine ⟨_, (hr.set (k * 2) _).set (k * 2 + 1) _, fun j hj => ?_⟩
  by_cases e : j = k
  · subst e; simp
  · simp only [if_neg e]
    rw [if_neg (by omega), if_neg (by omega), if_neg (by omega), if_neg (by omega)]
    exact hf j hj
theorem ListIs.other (h : ListIs w l n D E) {a : Addr} (ha : l ≠ a.block) (v : Value) : ListIs (w.setCell a v) l n D E := by
  obtain ⟨f, hr, hf⟩ := h
  exact ⟨f, hr.setOther ha v, hf⟩
theorem ListIs.alloc (h : ListIs w l n D E) (o : Obj) : ListIs (w.alloc o) l n D E := by
  obtain ⟨f, hr, hf⟩ := h
  exact ⟨f, hr.alloc o, hf⟩
theorem ListIs.drew (h : ListIs w l n D E) : ListIs w.drew l n D E := h
theorem ListIs.congr (h : ListIs w l n D E) {D' E' : Nat → Int} (e : ∀ j, j < n → D j = D' j ∧ E j = E' j) : ListIs w l n D' E' := by
  obtain ⟨f, hr, hf⟩ := h
  exact ⟨f, hr, fun j hj => by rw [(hf j hj).1, (hf j hj).2, (e j hj).1, (e j hj).2]; exact ⟨rfl, rfl⟩⟩
theorem ListIs.lt (h : ListIs w l n D E) : l < w.heap.size := by
  obtain ⟨f, hr, _⟩ := h
  exact hr.lt
end

/-! ### make -/
def chunk0 : Array Value := madeCells #[.int .i64 0, .int .i64 0, .int .u64 0, .int .u32 0, .bool false] 5120
def list0 (n : Nat) : Array Value := madeCells #[.int .u64 0, .int .u32 0] (n * 2)

theorem mk45 (w : World) : (Instr.makeSlice 45 (.int .i64 1024) (.int .i64 1024)).run Yba.prog w = .ok (.slice (some ⟨w.heap.size, 0, none⟩) 1024 1024) (w.alloc (.cells chunk0 63)) := by
  have hinfo : (Yba.prog.info? 63).map (fun i => (i.zero, i.size, i.bytes)) = some (some (.agg #[.int .i64 0, .int .i64 0, .int .u64 0, .int .u32 0, .bool false]), 5, 32) := by kernel_rfl
  obtain ⟨i, hi, hzz⟩ := Option.map_eq_some_iff.1 hinfo
  simp only [Prod.mk.injEq] at hzz
  obtain ⟨hz, hs, hb⟩ := hzz
  have hr := run_make (P := Yba.prog) w 45 63 i _ Yba.underlying45 hi hz .i64 .i64 1024 1024 (by omega) (by omega) (by rw [hb]; omega) (by omega)
  rw [hs] at hr
  simp only [Int.reduceToNat, Nat.reduceMul] at hr
  unfold chunk0
  exact hr
theorem mk30 (n : Nat) (hn : n ≤ 1024) (w : World) : (Instr.makeSlice 30 (.int .i64 n) (.int .i64 n)).run Yba.prog w = .ok (.slice (some ⟨w.heap.size, 0, none⟩) n n) (w.alloc (.cells (list0 n) 34)) := by
  have hinfo : (Yba.prog.info? 34).map (fun i => (i.zero, i.size, i.bytes)) = some (some (.agg #[.int .u64 0, .int .u32 0]), 2, 16) := by kernel_rfl
  obtain ⟨i, hi, hzz⟩ := Option.map_eq_some_iff.1 hinfo
  simp only [Prod.mk.injEq] at hzz
  obtain ⟨hz, hs, hb⟩ := hzz
  have hr := run_make (P := Yba.prog) w 30 34 i _ Yba.underlying30 hi hz .i64 .i64 n n (by omega) (by omega) (by rw [hb]; omega) (by omega)
  rw [hs] at hr
  exact hr
theorem made_get (z : Array Value) (n j : Nat) (h : j < n) : (madeCells z n)[j]? = some (z[j % z.size]!) := by simp [madeCells, h]
theorem chunk_size (n : Nat) (_h : n = 5120) : (madeCells #[.int .i64 0, .int .i64 0, .int .u64 0, .int .u32 0, .bool false] n).size = n := size_madeCells _ _
theorem chunk_get (n j : Nat) (h : j * 5 + 3 < n) : (madeCells #[.int .i64 0, .int .i64 0, .int .u64 0, .int .u32 0, .bool false] n)[j * 5 + 3]? = some (.int .u32 0) := by
  rw [made_get _ _ _ h]
  have hm : (j * 5 + 3) % 5 = 3 := by omega
  show some (#[Value.int .i64 0, .int .i64 0, .int .u64 0, .int .u32 0, .bool false][(j * 5 + 3) % 5]!) = _
  rw [hm]
  rfl
theorem chunk_any (w : World) (n : Nat) (hn : n = 5120) : ChunkIs (w.alloc (.cells (madeCells #[.int .i64 0, .int .i64 0, .int .u64 0, .int .u32 0, .bool false] n) 63)) w.heap.size (fun _ => 0) := by
  have h := World.rowIs_alloc w (madeCells #[.int .i64 0, .int .i64 0, .int .u64 0, .int .u32 0, .bool false] n) 63 (fun i => (madeCells #[.int .i64 0, .int .i64 0, .int .u64 0, .int .u32 0, .bool false] n)[i]?.getD undef) (fun i hi => by simp [hi])
  rw [chunk_size n hn] at h
  refine ⟨_, by rw [hn] at h; rw [hn]; exact h, fun j hj => ?_⟩
  rw [← hn, chunk_get n j (by omega)]
  rfl
theorem chunk_new (w : World) : ChunkIs (w.alloc (.cells chunk0 63)) w.heap.size (fun _ => 0) := chunk_any w 5120 rfl
theorem list_new (n : Nat) (w : World) : ListIs (w.alloc (.cells (list0 n) 34)) w.heap.size n (fun _ => 0) (fun _ => 0) := by
  have hs : (list0 n).size = n * 2 := size_madeCells _ _
  have h := World.rowIs_alloc w (list0 n) 34 (fun i => (list0 n)[i]?.getD undef) (fun i hi => by simp [hi])
  rw [hs] at h
  refine ⟨_, h, fun j hj => ?_⟩
  have e0 : (list0 n)[j * 2]? = some (.int .u64 0) := by
    have h5 : j * 2 < n * 2 := by omega
    have hm : (j * 2) % 2 = 0 := by omega
    simp [list0, madeCells, h5]
  have e1 : (list0 n)[j * 2 + 1]? = some (.int .u32 0) := by
    have h5 : j * 2 + 1 < n * 2 := by omega
    have hm : (j * 2 + 1) % 2 = 1 := by omega
    simp [list0, madeCells, h5, hm]
  simp only [e0, e1, Option.getD_some, and_self]
end Go.Proofs.Ybulkafty
