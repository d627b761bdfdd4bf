/-
  Plain: what the result of a pair is. The small callees.
-/
import Derived.Test.YbulkafygSort5
import Derived.Laws.AppendOwn
namespace Go.Proofs.Ybulkafyg
open Go.RowKit

/-! ### plain -/
theorem lst_succ (f : Nat → Lab) (n : Nat) : lst f (n + 1) = lst f n ++ [f n] := by
  unfold lst seg
  simp [List.range_succ]
theorem lst_zero (f : Nat → Lab) : lst f 0 = [] := rfl
def updL (f : Nat → Lab) (k : Nat) (x : Lab) : Nat → Lab := fun j => if j = k then x else f j
theorem lst_congr {f g : Nat → Lab} {n : Nat} (h : ∀ i, i < n → f i = g i) : lst f n = lst g n := seg_congr fun i _ hi => h i hi
theorem lst_upd (f : Nat → Lab) (k : Nat) (x : Lab) : lst (updL f k x) (k + 1) = lst f k ++ [x] := by
  rw [lst_succ, lst_congr (g := f) (fun i hi => by unfold updL; rw [if_neg (by omega)])]
  simp [updL]
theorem length_lst (f : Nat → Lab) (n : Nat) : (lst f n).length = n := by unfold lst; rw [length_seg]; omega

/-- is x one of the first n strings of s -/
def hasN (s : Nat → ByteArray) (n : Nat) (x : ByteArray) : Bool := (List.range n).any fun i => x.toList == (s i).toList
/-- the value of the first label of that name -/
def getN (f : Nat → Lab) (n : Nat) (x : ByteArray) : ByteArray := ((lst f n).find? fun l => l.1.toList == x.toList).elim ⟨#[]⟩ (·.2)

theorem hasN_yes {s : Nat → ByteArray} {n k : Nat} {x : ByteArray} (hk : k < n) (h : (x.toList == (s k).toList) = true) : hasN s n x = true := by
  unfold hasN
  rw [List.any_eq_true]
  exact ⟨k, List.mem_range.2 hk, h⟩
theorem hasN_no {s : Nat → ByteArray} {n : Nat} {x : ByteArray} (h : ∀ i, i < n → (x.toList == (s i).toList) = false) : hasN s n x = false := by
  unfold hasN
  rw [List.any_eq_false]
  intro i hi
  simp [h i (List.mem_range.1 hi)]
theorem lst_take (f : Nat → Lab) {k n : Nat} (h : k ≤ n) : lst f n = lst f k ++ seg f k n := seg_append f (Nat.zero_le _) h
theorem find_none {f : Nat → Lab} {k : Nat} {x : ByteArray} (h : ∀ i, i < k → ((f i).1.toList == x.toList) = false) : (lst f k).find? (fun l => l.1.toList == x.toList) = none := by
  rw [List.find?_eq_none]
  intro l hl
  obtain ⟨i, _, hi, rfl⟩ := mem_seg hl
  simp [h i hi]
theorem getN_yes {f : Nat → Lab} {n k : Nat} {x : ByteArray} (hk : k < n) (h0 : ∀ i, i < k → ((f i).1.toList == x.toList) = false) (h : ((f k).1.toList == x.toList) = true) : getN f n x = (f k).2 := by
  unfold getN
  rw [lst_take f (show k + 1 ≤ n by omega), lst_succ, List.append_assoc, List.find?_append, find_none h0]
  simp [h]
theorem getN_no {f : Nat → Lab} {n : Nat} {x : ByteArray} (h0 : ∀ i, i < n → ((f i).1.toList == x.toList) = false) : getN f n x = ⟨#[]⟩ := by
  unfold getN
  rw [find_none h0]
  rfl

/-! ### a slice of strings -/
def StrV (w : World) (v : Value) (n : Nat) (s : Nat → ByteArray) : Prop :=
  (v = .slice none 0 0 ∧ n = 0) ∨ ∃ g cap, v = .slice (some ⟨g, 0, none⟩) n cap ∧ n ≤ 1000000 ∧ g < w.heap.size ∧ ∀ i, i < n → w.cell? ⟨g, i, none⟩ = some (.string (s i))

set_option maxRecDepth 100000 in
set_option maxHeartbeats 400000 in
theorem c_index (v : Value) (n : Nat) (s : Nat → ByteArray) (x : ByteArray) (w : World) (h : StrV w v n s) :
    Calls Yba.prog 16 #[v, .string x] w fun e w' => w' = w ∧ ∃ r : Int, e = .returned (.int .i64 r) ∧ -1 ≤ r ∧ r < 1000000 ∧ decide (0 ≤ r) = hasN s n x := by
  rcases h with ⟨rfl, rfl⟩ | ⟨g, cap, rfl, hn, hg, hc⟩
  · go_enter Yba.func16, Yba.ntmps16
    go_wp2
    go_loopw [5, 8] (fun _ i wr => i = .int .i64 0 ∧ wr = w) (fun _ _ _ => 0)
    case atStart => exact ⟨rfl, rfl⟩
    case round =>
      obtain ⟨rfl, rfl⟩ := hrel
      go_wp2
      go_ret
      exact ⟨rfl, -1, rfl, by omega, by omega, rfl⟩
  · go_enter Yba.func16, Yba.ntmps16
    go_wp2
    go_loopw [5, 8] (fun _ i wr => ∃ k : Nat, k ≤ n ∧ i = .int .i64 k ∧ (∀ i, i < k → (x.toList == (s i).toList) = false) ∧ wr = w) (fun _ i _ => n - (intOf i).toNat)
    case atStart => exact ⟨0, by omega, rfl, fun _ _ => by omega, rfl⟩
    case round =>
      obtain ⟨k, hk, rfl, hno, rfl⟩ := hrel
      by_cases hlt : k < n
      · have a0 := hc k hlt
        cases he : x.toList == (s k).toList with
        | true =>
          clear hc hno
          go_wp2
          go_ret
          exact ⟨rfl, k, rfl, by omega, by omega, by rw [hasN_yes hlt he]; simp⟩
        | false =>
          clear hc
          go_wp2
          go_roundw
          case rel => exact ⟨k + 1, by omega, by go_num, fun i hi => by rcases Nat.lt_or_ge i k with e | e; exact hno i e; rw [show i = k by omega]; exact he, trivial⟩
          case measure => simp [intOf]; omega
      · obtain rfl : k = n := by omega
        have := hasN_no hno
        clear hc hno
        go_wp2
        go_ret
        exact ⟨rfl, -1, rfl, by omega, by omega, by rw [this]; rfl⟩
theorem c_contains (v : Value) (n : Nat) (s : Nat → ByteArray) (x : ByteArray) (w : World) (h : StrV w v n s) :
    Calls Yba.prog 11 #[v, .string x] w fun e w' => e = .returned (.bool (hasN s n x)) ∧ w' = w := by
  go_enter Yba.func11, Yba.ntmps11
  go_wp2_with fail
  refine (c_index v n s x w h).mono ?_
  rintro e w' ⟨rfl, r, rfl, h1, h2, h3⟩
  go_wp2
  go_ret
  exact ⟨by rw [← h3]; rfl, rfl⟩

/-! ### a slice of labels that is only read -/
def LabV (w : World) (v : Value) (n : Nat) (f : Nat → Lab) : Prop := ∃ g C, v = .slice (some ⟨g, 0, none⟩) n C ∧ n ≤ 1000000 ∧ LRow w g n f

set_option maxRecDepth 100000 in
set_option maxHeartbeats 400000 in
theorem c_get (g C n : Nat) (f : Nat → Lab) (x : ByteArray) (w : World) (hn : n ≤ 1000000) (h : LRow w g n f) :
    Calls Yba.prog 19 #[.slice (some ⟨g, 0, none⟩) n C, .string x] w fun e w' => e = .returned (.string (getN f n x)) ∧ Chg w w' (fun _ => False) := by
  go_enter Yba.func19, Yba.ntmps19
  go_wp2
  go_loopw [6, 9] (fun _ i wr => ∃ k : Nat, k ≤ n ∧ i = .int .i64 k ∧ (∀ i, i < k → ((f i).1.toList == x.toList) = false) ∧ Chg w wr (fun _ => False)) (fun _ i _ => n - (intOf i).toNat)
  case atStart => exact ⟨0, by omega, rfl, fun _ _ => by omega, Chg.refl _ _⟩
  case round =>
    obtain ⟨k, hk, rfl, hno, hc⟩ := hrel
    by_cases hlt : k < n
    · have hr := h.chg hc (fun e => e)
      have a0 := hr.cell0 hlt
      have a1 := hr.cell1 hlt
      cases he : (f k).1.toList == x.toList with
      | true =>
        have hg := getN_yes hlt hno he
        clear h hno hr
        go_wp2
        go_ret
        exact ⟨by rw [hg]; rfl, hc.alloc _⟩
      | false =>
        clear h hr
        go_wp2
        go_roundw
        case rel => exact ⟨k + 1, by omega, by go_num, fun i hi => by rcases Nat.lt_or_ge i k with e | e; exact hno i e; rw [show i = k by omega]; exact he, hc.alloc _⟩
        case measure => simp [intOf]; omega
    · obtain rfl : k = n := by omega
      have hg := getN_no hno
      clear h hno
      go_wp2
      go_ret
      exact ⟨by rw [hg]; rfl, hc⟩

/-- does arithmetic stand in the operator -/
def arV (ar : Bool) : Value := if ar then .func (.func 6) #[] #[] else .nilFunc
/-- the expression's block and its operator's -/
structure BEx (w : World) (B O : Nat) (ar rb on : Bool) (c : Int) (nm inc : Value) : Prop where
  op : w.cell? ⟨B, 0, none⟩ = some (.pointer (some ⟨O, 0, none⟩))
  rb : w.cell? ⟨B, 3, none⟩ = some (.bool rb)
  card : w.cell? ⟨B, 4, none⟩ = some (.int .i64 c)
  on : w.cell? ⟨B, 5, none⟩ = some (.bool on)
  nm : w.cell? ⟨B, 6, none⟩ = some nm
  inc : w.cell? ⟨B, 7, none⟩ = some inc
  ar : w.cell? ⟨O, 2, none⟩ = some (arV ar)
  lt : B < w.heap.size
  ltO : O < w.heap.size
theorem BEx.chg {w w' : World} {S : Nat → Prop} {B O : Nat} {ar rb on : Bool} {c : Int} {nm inc : Value} (h : BEx w B O ar rb on c nm inc) (hc : Chg w w' S) (hB : ¬ S B) (hO : ¬ S O) : BEx w' B O ar rb on c nm inc := by
  have eB : ∀ i, w'.cell? ⟨B, i, none⟩ = w.cell? ⟨B, i, none⟩ := fun i => World.cell?_of_block (hc.block B h.lt hB)
  have eO : ∀ i, w'.cell? ⟨O, i, none⟩ = w.cell? ⟨O, i, none⟩ := fun i => World.cell?_of_block (hc.block O h.ltO hO)
  exact ⟨by rw [eB]; exact h.op, by rw [eB]; exact h.rb, by rw [eB]; exact h.card, by rw [eB]; exact h.on, by rw [eB]; exact h.nm, by rw [eB]; exact h.inc, by rw [eO]; exact h.ar, Nat.lt_of_lt_of_le h.lt hc.size, Nat.lt_of_lt_of_le h.ltO hc.size⟩

set_option maxRecDepth 100000 in
theorem c_drops (B O : Nat) (ar rb on : Bool) (c : Int) (nm inc : Value) (w : World) (h : BEx w B O ar rb on c nm inc) :
    Calls Yba.prog 18 #[.pointer (some ⟨B, 0, none⟩)] w fun e w' => e = .returned (.bool (ar || rb)) ∧ w' = w := by
  have h1 := h.op
  have h2 := h.rb
  have h3 := h.ar
  clear h
  have n1 : ∀ w : World, (binOp BinOp.neq 32 (.func (.func 6) #[] #[]) .nilFunc).run Yba.prog w = .ok (.bool true) w := fun _ => by kernel_rfl
  have n2 : ∀ w : World, (binOp BinOp.neq 32 .nilFunc .nilFunc).run Yba.prog w = .ok (.bool false) w := fun _ => by kernel_rfl
  go_enter Yba.func18, Yba.ntmps18
  cases ar with
  | true =>
    simp only [arV, if_true] at h3
    go_wp2
    go_ret
    exact ⟨rfl, rfl⟩
  | false =>
    simp only [arV] at h3
    go_wp2
    go_ret
    exact ⟨rfl, rfl⟩

/-! ### append of one label onto a row with room -/
theorem run_app (ty : TypeId) (w : World) (g k cap K : Nat) (f : Nat → Lab) (x : Lab) (h : LRow w g K f) (hk : k < K) (hcap : k + 1 ≤ cap) (ad : Nat) (c : Nat)
    (c0 : w.cell? ⟨ad, 0, none⟩ = some (.string x.1)) (c1 : w.cell? ⟨ad, 1, none⟩ = some (.string x.2)) :
    ∃ w', (Builtin.append_ #[27, 27] ty #[.slice (some ⟨g, 0, none⟩) k cap, .slice (some ⟨ad, 0, none⟩) 1 c]).run Yba.prog w = .ok (.slice (some ⟨g, 0, none⟩) (k + 1) cap) w' ∧ LRow w' g K (updL f k x) ∧ Chg w w' (fun j => j = g) := by
  obtain ⟨N, v, hN, ⟨cur, hb, hsz, hcur⟩, hf⟩ := h
  have hinfo : (Yba.prog.info? 58).map (fun i => i.size) = some 2 := by kernel_rfl
  obtain ⟨i, hi, hs⟩ := Option.map_eq_some_iff.1 hinfo
  have hadd : ∀ j, (⟨ad, 0, none⟩ : Addr).add j = ⟨ad, j, none⟩ := fun j => by unfold Addr.add; split <;> simp_all
  have hr := run_append_room (P := Yba.prog) w 27 ty 58 i Yba.underlying27 hi g k cap cur hb ⟨ad, 0, none⟩ 1 c [.string x.1, .string x.2] (by rw [hs]; rfl) (by
    intro j u hu
    rw [hadd]
    match j, hu with
    | 0, hu => simp at hu; rw [c0, hu]
    | 1, hu => simp at hu; rw [c1, hu]
    | j + 2, hu => simp at hu) (by intro u hu; simp at hu; rcases hu with rfl | rfl <;> rfl) hcap (by rw [hs, hsz]; simp; omega)
  refine ⟨_, hr, ?_, ?_⟩
  · rw [hs]
    refine ⟨N, fun j => if j = k * 2 then .string x.1 else if j = k * 2 + 1 then .string x.2 else v j, hN, ⟨_, setRow_heap w g cur _ 58 _ hb, ?_, ?_⟩, ?_⟩
    · simp only [List.size_toArray, List.length_append, List.length_take, List.length_drop, Array.length_toList, List.length_cons, List.length_nil]; omega
    · intro j hj
      dsimp only
      rw [List.getElem?_toArray]
      by_cases e1 : j < k * 2
      · rw [if_neg (by omega), if_neg (by omega), List.getElem?_append_left (by simp; omega), List.getElem?_append_left (by simp; omega), List.getElem?_take, if_pos e1, Array.getElem?_toList]
        exact hcur j hj
      · by_cases e2 : j < k * 2 + 2
        · rw [List.getElem?_append_left (by simp; omega), List.getElem?_append_right (by simp; omega)]
          have hl : (List.take (k * 2) cur.toList).length = k * 2 := by simp; omega
          rw [hl]
          by_cases e3 : j = k * 2
          · rw [if_pos e3, e3]; simp
          · have : j = k * 2 + 1 := by omega
            rw [if_neg e3, if_pos this, this]; simp
        · rw [if_neg (by omega), if_neg (by omega), List.getElem?_append_right (by simp; omega), List.getElem?_drop]
          have hl : (List.take (k * 2) cur.toList ++ [Value.string x.fst, Value.string x.snd]).length = k * 2 + 2 := by simp; omega
          rw [hl, Array.getElem?_toList]
          have : k * 2 + [Value.string x.fst, Value.string x.snd].length + (j - (k * 2 + 2)) = j := by simp; omega
          rw [this]
          exact hcur j hj
    · intro j hj
      unfold updL
      dsimp only
      by_cases e : j = k
      · rw [if_pos e, e, if_pos rfl, if_neg (by omega), if_pos rfl]; exact ⟨rfl, rfl⟩
      · rw [if_neg e, if_neg (by omega), if_neg (by omega), if_neg (by omega), if_neg (by omega)]
        exact hf j hj
  · exact ⟨rfl, rfl, rfl, by simp, fun j _ hj => setRow_other w g j _ (fun e => hj e)⟩

theorem wpList_app (w : World) {ops : Array Oper} {rest : List Oper} {o : Oper} {a : Act} {Q : Exit → Act → World → Prop} (hgd : o.guard = none) (s x : Operand)
    (ho : o.op = .call { callee := .builtin .append, args := #[s, x], argTypes := #[27, 27] }) (g k cap K : Nat) (f : Nat → Lab) (y : Lab) (hs : a.eval s = .slice (some ⟨g, 0, none⟩) k cap)
    (h : LRow w g K f) (hk : k < K) (hcap : k + 1 ≤ cap) (ad c : Nat) (hx : a.eval x = .slice (some ⟨ad, 0, none⟩) 1 c)
    (c0 : w.cell? ⟨ad, 0, none⟩ = some (.string y.1)) (c1 : w.cell? ⟨ad, 1, none⟩ = some (.string y.2))
    (hK : ∀ w', LRow w' g K (updL f k y) → Chg w w' (fun j => j = g) → wpList Yba.prog ops Q rest (a.put o.dst (.slice (some ⟨g, 0, none⟩) (k + 1) cap)) w') : wpList Yba.prog ops Q (o :: rest) a w := by
  refine wpList_plain hgd fun K' hK' => ?_
  obtain ⟨w', hr, h2, h3⟩ := run_app o.type w g k cap K f y h hk hcap ad c c0 c1
  unfold Oper.wp execOp
  simp only [ho, resolve, invoke, builtin, Sem.run_bind, Sem.run_pure, Result.andThen_ok, List.map_toArray, List.map_cons, List.map_nil, hs, hx, hr]
  exact hK' _ _ (hK w' h2 h3)
end Go.Proofs.Ybulkafyg
