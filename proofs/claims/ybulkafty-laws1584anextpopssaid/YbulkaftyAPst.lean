/-
  The popping of the queue in LawS1584ANextPops: the state between two pops, without the walk.
-/
import Derived.Test.YbulkaftyABld
namespace Go.Proofs.Ybulkafty
open Go.RowKit

def sumK (K : Nat → Nat) (h : Nat) : Nat → Nat
  | 0 => 0
  | n + 1 => K h + sumK K (h + 1) n
/-- how many tasks are left: c of the first of n lists, and all of the others -/
def rem (K : Nat → Nat) (h n c : Nat) : Nat :=
  match n with
  | 0 => 0
  | n + 1 => c + sumK K (h + 1) n
theorem rem_many (K : Nat → Nat) (h n c : Nat) (hn : 0 < n) (hc : 1 < c) : rem K h n c = rem K h n (c - 1) + 1 := by
  cases n with
  | zero => omega
  | succ n => simp only [rem]; omega
theorem rem_last (K : Nat → Nat) (h n : Nat) (hn : 0 < n) : rem K h n 1 = rem K (h + 1) (n - 1) (K (h + 1)) + 1 := by
  cases n with
  | zero => omega
  | succ n =>
    cases n with
    | zero => simp [rem, sumK]
    | succ n => simp only [rem, sumK, Nat.add_sub_cancel]; omega
theorem rem_pos (K : Nat → Nat) (h n c : Nat) (hc : 0 < c) : 0 < rem K h n c ↔ 0 < n := by
  cases n with
  | zero => simp [rem]
  | succ n => simp only [rem]; omega

structure PSt (w wr : World) (X Y U h n kx ky ku c N : Nat) (G K s L : Nat → Nat) (Z : Nat → Nat → Int) : Prop where
  que : Que wr w.heap.size X h n kx c (rem K h n c : Nat) G K (fun r _ => s r) (fun r => Z (s r))
  idx : ∃ f, wr.rowIs Y 3 (h + ky) f ∧ ∀ r, h ≤ r → r < h + n → f r = .int .i64 (s r)
  lens : ∃ f, wr.rowIs U 3 (h + ku) f ∧ ∀ r, h ≤ r → r < h + n → f r = .int .i64 (if r = h then c else K r : Nat)
  ny : n ≤ ky
  nu : n ≤ ku
  nm : n ≤ 256
  mx : kx ≤ maxLen ∧ ky ≤ maxLen ∧ ku ≤ maxLen
  apart : Y ≠ U
  below : Below w.heap.size w wr
  new : w.heap.size ≤ X ∧ w.heap.size ≤ Y ∧ w.heap.size ≤ U
  ls : ∀ r, h ≤ r → r < h + n → K r = L (s r) ∧ s r < N

section
variable {w wr w' : World} {X Y U h n kx ky ku c N : Nat} {G K s L : Nat → Nat} {Z : Nat → Nat → Int}

theorem PSt.drew (p : PSt w wr X Y U h n kx ky ku c N G K s L Z) : PSt w wr.drew X Y U h n kx ky ku c N G K s L Z :=
  ⟨p.que.drew, p.idx, p.lens, p.ny, p.nu, p.nm, p.mx, p.apart, p.below.drew, p.new, p.ls⟩
theorem PSt.ux (p : PSt w wr X Y U h n kx ky ku c N G K s L Z) : U ≠ X ∧ U ≠ w.heap.size ∧ Y ≠ X ∧ Y ≠ w.heap.size := by
  obtain ⟨al, hq, _⟩ := p.que.q
  obtain ⟨f, ⟨cs, hb, _⟩, _⟩ := p.que.row
  obtain ⟨f1, ⟨cs1, hb1, _⟩, _⟩ := p.idx
  obtain ⟨f2, ⟨cs2, hb2, _⟩, _⟩ := p.lens
  unfold QIs at hq
  refine ⟨?_, ?_, ?_, ?_⟩
  · rintro rfl; rw [hb] at hb2; simp at hb2
  · intro e; rw [e, hq] at hb2; simp at hb2
  · rintro rfl; rw [hb] at hb1; simp at hb1
  · intro e; rw [e, hq] at hb1; simp at hb1
theorem PSt.ug (p : PSt w wr X Y U h n kx ky ku c N G K s L Z) (r : Nat) (h1 : h ≤ r) (h2 : r < h + n) : G r ≠ U ∧ G r ≠ Y := by
  obtain ⟨⟨f, ⟨cs, hb, _⟩, _⟩, _⟩ := p.que.list r h1 h2
  obtain ⟨f1, ⟨cs1, hb1, _⟩, _⟩ := p.idx
  obtain ⟨f2, ⟨cs2, hb2, _⟩, _⟩ := p.lens
  constructor
  · intro e; rw [e, hb2] at hb; simp at hb
  · intro e; rw [e, hb1] at hb; simp at hb
theorem PSt.i0 (p : PSt w wr X Y U h n kx ky ku c N G K s L Z) (hn : 0 < n) : wr.cell? ⟨Y, h, none⟩ = some (.int .i64 (s h)) := by
  obtain ⟨f, hr, hf⟩ := p.idx
  have := p.ny
  rw [hr.cell (by omega), hf h (Nat.le_refl _) (by omega)]
theorem PSt.l0 (p : PSt w wr X Y U h n kx ky ku c N G K s L Z) (hn : 0 < n) : wr.cell? ⟨U, h, none⟩ = some (.int .i64 c) := by
  obtain ⟨f, hr, hf⟩ := p.lens
  have := p.nu
  rw [hr.cell (by omega), hf h (Nat.le_refl _) (by omega), if_pos rfl]
theorem PSt.fr (p : PSt w wr X Y U h n kx ky ku c N G K s L Z) : wr.frozen? ⟨U, h, none⟩ = false := by
  obtain ⟨f, hr, hf⟩ := p.lens
  exact hr.frozen h
theorem PSt.cell_i (p : PSt w wr X Y U h n kx ky ku c N G K s L Z) (hc : Chg wr w' (fun j => j = w.heap.size ∨ j = X)) (hn : 0 < n) : w'.cell? ⟨Y, h, none⟩ = some (.int .i64 (s h)) := by
  obtain ⟨_, _, u3, u4⟩ := p.ux
  obtain ⟨f, hr, hf⟩ := p.idx
  have := p.ny
  rw [(hr.of_block (hc.block Y hr.lt (by rintro (e | e); exact u4 e; exact u3 e))).cell (by omega), hf h (Nat.le_refl _) (by omega)]
theorem PSt.cell_l (p : PSt w wr X Y U h n kx ky ku c N G K s L Z) (hc : Chg wr w' (fun j => j = w.heap.size ∨ j = X)) (hn : 0 < n) : w'.cell? ⟨U, h, none⟩ = some (.int .i64 c) ∧ w'.frozen? ⟨U, h, none⟩ = false := by
  obtain ⟨u1, u2, _, _⟩ := p.ux
  obtain ⟨f, hr, hf⟩ := p.lens
  have := p.nu
  have hr' := hr.of_block (hc.block U hr.lt (by rintro (e | e); exact u2 e; exact u1 e))
  rw [hr'.cell (by omega), hf h (Nat.le_refl _) (by omega), if_pos rfl]
  exact ⟨rfl, hr'.frozen h⟩

theorem pst_many (p : PSt w wr X Y U h n kx ky ku c N G K s L Z) (hn : 0 < n) (hc1 : 1 < c) (u : Que w' w.heap.size X h n kx (c - 1) ((rem K h n c : Nat) - 1) G K (fun r _ => s r) (fun r => Z (s r)))
    (hc : Chg wr w' (fun j => j = w.heap.size ∨ j = X)) : PSt w (w'.setCell ⟨U, h, none⟩ (.int .i64 ((c : Int) - 1))) X Y U h n kx ky ku (c - 1) N G K s L Z := by
  obtain ⟨u1, u2, u3, u4⟩ := p.ux
  obtain ⟨n1, n2, n3⟩ := p.new
  refine ⟨?_, ?_, ?_, p.ny, p.nu, p.nm, p.mx, p.apart, (hc.below p.below p.below.size (by rintro k (e | e) <;> omega)).setCell n3 _, p.new, p.ls⟩
  · have e : ((rem K h n c : Nat) : Int) - 1 = ((rem K h n (c - 1) : Nat) : Int) := by rw [rem_many K h n c hn hc1]; omega
    rw [e] at u
    refine u.move (fun j hj => Deep.blk_setCell_other _ _ _ _ ?_)
    rintro rfl
    rcases hj with e | e | ⟨r, h1, h2, e⟩
    · exact u2 e
    · exact u1 e
    · exact (p.ug r h1 h2).1 e.symm
  · obtain ⟨f, hr, hf⟩ := p.idx
    exact ⟨f, (hr.of_block (hc.block Y hr.lt (by rintro (e | e); exact u4 e; exact u3 e))).setOther p.apart _, hf⟩
  · obtain ⟨f, hr, hf⟩ := p.lens
    refine ⟨_, (hr.of_block (hc.block U hr.lt (by rintro (e | e); exact u2 e; exact u1 e))).set h _, fun r h1 h2 => ?_⟩
    by_cases e : r = h
    · subst e; simp; omega
    · rw [if_neg e, hf r h1 h2, if_neg e, if_neg e]

theorem pst_last (p : PSt w wr X Y U h n kx ky ku 1 N G K s L Z) (hn : 0 < n) (u : Que w' w.heap.size X (h + 1) (n - 1) (kx - 1) (K (h + 1)) ((rem K h n 1 : Nat) - 1) G K (fun r _ => s r) (fun r => Z (s r)))
    (hc : Chg wr w' (fun j => j = w.heap.size ∨ j = X)) (v : Value) : PSt w (w'.setCell ⟨U, h, none⟩ v) X Y U (h + 1) (n - 1) (kx - 1) (ky - 1) (ku - 1) (K (h + 1)) N G K s L Z := by
  obtain ⟨u1, u2, u3, u4⟩ := p.ux
  obtain ⟨n1, n2, n3⟩ := p.new
  have ny := p.ny
  have nu := p.nu
  have nm := p.nm
  have mx := p.mx
  refine ⟨?_, ?_, ?_, by omega, by omega, by omega, by omega, p.apart, (hc.below p.below p.below.size (by rintro k (e | e) <;> omega)).setCell n3 _, p.new, fun r h1 h2 => p.ls r (by omega) (by omega)⟩
  · have e : ((rem K h n 1 : Nat) : Int) - 1 = ((rem K (h + 1) (n - 1) (K (h + 1)) : Nat) : Int) := by rw [rem_last K h n hn]; omega
    rw [e] at u
    refine u.move (fun j hj => Deep.blk_setCell_other _ _ _ _ ?_)
    rintro rfl
    rcases hj with e | e | ⟨r, h1, h2, e⟩
    · exact u2 e
    · exact u1 e
    · exact (p.ug r (by omega) (by omega)).1 e.symm
  · obtain ⟨f, hr, hf⟩ := p.idx
    refine ⟨f, ?_, fun r h1 h2 => hf r (by omega) (by omega)⟩
    rw [show h + 1 + (ky - 1) = h + ky by omega]
    exact (hr.of_block (hc.block Y hr.lt (by rintro (e | e); exact u4 e; exact u3 e))).setOther p.apart _
  · obtain ⟨f, hr, hf⟩ := p.lens
    refine ⟨_, by rw [show h + 1 + (ku - 1) = h + ku by omega]; exact (hr.of_block (hc.block U hr.lt (by rintro (e | e); exact u2 e; exact u1 e))).set h v, fun r h1 h2 => ?_⟩
    rw [if_neg (by omega), hf r (by omega) (by omega), if_neg (by omega)]
    by_cases e : r = h + 1
    · rw [if_pos e, e]
    · rw [if_neg e]
end

/-- a row that is owned, as a row by index -/
theorem owns_row {w : World} {base : Nat} {e : TypeId} {v : Value} {n : Nat} {xs : List Value} (h : w.ownsRow base e 1 v n xs) (hn : 0 < n) :
    ∃ g cap f, v = .slice (some ⟨g, 0, none⟩) n cap ∧ base ≤ g ∧ w.rowIs g e cap f ∧ n ≤ cap ∧ cap ≤ maxLen ∧ ∀ r, r < n → xs[r]? = some (f r) := by
  rcases h.2 with ⟨_, h0⟩ | ⟨g, cap, cur, rfl, hb, hg, hnc, hm, hs, ht⟩
  · omega
  · simp only [Nat.mul_one] at hs ht
    refine ⟨g, cap, fun i => cur[i]?.getD undef, rfl, hb, ⟨cur, hg, hs, fun i hi => by simp [hs, hi]⟩, hnc, hm, fun r hr => ?_⟩
    rw [← ht, List.getElem?_take, if_pos hr]
    simp [show r < cur.size by omega]

theorem sumK_map (L : Nat → Nat) : ∀ (GS : List (Nat × Nat)) (K : Nat → Nat) (h : Nat), (∀ r, r < GS.length → K (h + r) = L (GS.getD r (0, 0)).2) → sumK K h GS.length = (GS.map fun p => L p.2).sum
  | [], _, _, _ => rfl
  | p :: GS, K, h, hk => by
    have h0 := hk 0 (by simp)
    have ih := sumK_map L GS K (h + 1) (fun r hr => by have := hk (r + 1) (by simp; omega); rw [show h + 1 + r = h + (r + 1) by omega, this]; simp)
    simp only [List.length_cons, sumK, List.map_cons, List.sum_cons, ih]
    simp at h0
    omega

theorem pst_start {w wr : World} {N : Nat} {L : Nat → Nat} {Z : Nat → Nat → Int} {vl vi vm : Value} {GS : List (Nat × Nat)} (h : Bld w wr N N L Z vl vi vm GS) (hN : N ≤ 256) (hL : ∀ j, j < N → L j ≤ 256) (hpos : 0 < GS.length) :
    ∃ X Y U kx ky ku, vi = .slice (some ⟨Y, 0, none⟩) GS.length ky ∧ vm = .slice (some ⟨U, 0, none⟩) GS.length ku ∧
      PSt w wr X Y U 0 GS.length kx ky ku (L (GS.getD 0 (0, 0)).2) N (fun r => (GS.getD r (0, 0)).1) (fun r => L (GS.getD r (0, 0)).2) (fun r => (GS.getD r (0, 0)).2) L Z ∧
      rem (fun r => L (GS.getD r (0, 0)).2) 0 GS.length (L (GS.getD 0 (0, 0)).2) = sumTo L N := by
  obtain ⟨X, kx, f1, rfl, b1, r1, n1, m1, e1⟩ := owns_row h.lists hpos
  obtain ⟨Y, ky, f2, rfl, b2, r2, n2, m2, e2⟩ := owns_row h.idx hpos
  obtain ⟨U, ku, f3, rfl, b3, r3, n3, m3, e3⟩ := owns_row h.lens hpos
  have hlen := h.len
  have hget : ∀ r, r < GS.length → GS[r]? = some (GS.getD r (0, 0)) := fun r hr => by simp [List.getD, hr]
  have hmem : ∀ r, r < GS.length → GS.getD r (0, 0) ∈ GS := fun r hr => List.mem_of_getElem? (hget r hr)
  have hrem : rem (fun r => L (GS.getD r (0, 0)).2) 0 GS.length (L (GS.getD 0 (0, 0)).2) = sumTo L N := by
    rw [← h.sum, ← sumK_map L GS (fun r => L (GS.getD r (0, 0)).2) 0 (fun r _ => by simp)]
    obtain ⟨m, hm⟩ : ∃ m, GS.length = m + 1 := ⟨GS.length - 1, by omega⟩
    rw [hm]
    simp [rem, sumK]
  refine ⟨X, Y, U, kx, ky, ku, rfl, rfl, ⟨?_, ?_, ?_, n2, n3, by omega, ⟨m1, m2, m3⟩, ?_, h.below, ⟨by omega, by omega, by omega⟩, ?_⟩, hrem⟩
  · refine ⟨⟨_, by rw [hrem]; exact h.q, fun _ => rfl⟩, ⟨f1, by rw [Nat.zero_add]; exact r1, fun r _ hr => ?_⟩, n1, fun _ => ?_, fun r _ hr => ?_⟩
    · have := e1 r (by omega)
      rw [List.getElem?_map, hget r (by omega)] at this
      have h' : f1 r = _ := (Option.some.inj this).symm
      rw [h']
      by_cases hr0 : r = 0
      · subst hr0; simp
      · rw [if_neg hr0]
    · have := (h.blocks _ (hmem 0 hpos)).2
      omega
    · have hb := h.blocks _ (hmem r (by omega))
      exact ⟨hb.1, hb.2.1, hL _ hb.2.2⟩
  · refine ⟨f2, by rw [Nat.zero_add]; exact r2, fun r _ hr => ?_⟩
    have := e2 r (by omega)
    rw [List.getElem?_map, hget r (by omega)] at this
    exact (Option.some.inj this).symm
  · refine ⟨f3, by rw [Nat.zero_add]; exact r3, fun r _ hr => ?_⟩
    have := e3 r (by omega)
    rw [List.getElem?_map, hget r (by omega)] at this
    have h' : f3 r = _ := (Option.some.inj this).symm
    rw [h']
    by_cases hr0 : r = 0
    · subst hr0; simp
    · rw [if_neg hr0]
  · rintro rfl
    exact h.apart Y rfl rfl
  · intro r _ hr
    exact ⟨rfl, (h.blocks _ (hmem r (by omega))).2.2⟩
end Go.Proofs.Ybulkafty
