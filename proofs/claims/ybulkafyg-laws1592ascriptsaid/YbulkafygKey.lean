/-
  The memo's keys: equality, finding one in the map's entries.
-/
import Derived.Test.YbulkafygMod
import Derived.LaidEql
import Derived.WideKeyRuns
import Derived.Laws.StructEq
namespace Go.Proofs.Ybulkafyg
open Go.RowKit

structure Key where
  a : Option Nat
  n : Int
  b : Option Nat
  m : Int
deriving DecidableEq

def ptrV (a : Option Nat) : Value := .pointer (a.map fun g => ⟨g, 0, none⟩)
def keyC (k : Key) : Array Value := #[ptrV k.a, .int .i64 k.n, ptrV k.b, .int .i64 k.m]
def keyV (k : Key) : Value := .agg (keyC k)
/-- the pointer leads to cells -/
def LiveP (w : World) (a : Option Nat) : Prop := ∀ g, a = some g → ∃ c t, w.heap[g]? = some (.cells c t (0, 0))
def Live (w : World) (k : Key) : Prop := LiveP w k.a ∧ LiveP w k.b

theorem eqP (d : Nat) (a b : Option Nat) (w : World) (ha : LiveP w a) (hb : LiveP w b) : (Op.equalIn (d + 1) 56 (ptrV a) (ptrV b)).run Yba.prog w = .ok (decide (a = b)) w := by
  have hp : Yba.prog.underlying 56 = some (.pointer 58) := by kernel_rfl
  have hinfo : (Yba.prog.info? 58).map (fun i => i.size) = some 2 := by kernel_rfl
  obtain ⟨i, hi, hs⟩ := Option.map_eq_some_iff.1 hinfo
  cases a with
  | none => cases b <;> simp [Op.equalIn, run_underlying hp, ptrV]
  | some g =>
    cases b with
    | none => simp [Op.equalIn, run_underlying hp, ptrV]
    | some g' =>
      obtain ⟨c, t, h1⟩ := ha g rfl
      obtain ⟨c', t', h2⟩ := hb g' rfl
      by_cases e : g = g'
      · subst e
        simp [Op.equalIn, run_underlying hp, ptrV, sizeOf, typeInfo, hi, run_sameAddr_same]
      · have hne : (⟨g, 0, none⟩ : Addr) ≠ ⟨g', 0, none⟩ := by intro h; apply e; cases h; rfl
        simp [Op.equalIn, run_underlying hp, ptrV, sizeOf, typeInfo, hi, hs, run_sameAddr_other w hne h1 h2, e]

theorem eq84 (d : Nat) (a b : Option Nat) (n m : Int) (w : World) (ha : LiveP w a) (hb : LiveP w b) :
    (Op.equalIn (d + 2) 84 (.agg #[ptrV a, .int .i64 n]) (.agg #[ptrV b, .int .i64 m])).run Yba.prog w = .ok (decide (a = b) && (n == m)) w := by
  have u3 := Yba.underlying3
  have hS : Yba.prog.underlying 84 = some (.struct (Yba.prog.fieldsOf 84)) := by kernel_rfl
  have hp : Yba.prog.stoodInHeld 84 = false := by kernel_rfl
  have p1 : ∀ x y : Value, (part 56 #[x, y] 0).run Yba.prog w = .ok x w := fun x y => by kernel_rfl
  have p2 : ∀ x y : Value, (part 3 #[x, y] 1).run Yba.prog w = .ok y w := fun x y => by kernel_rfl
  rw [run_equalIn_agg w (d + 1) 84 _ _ hS hp]
  simp only [Program.fieldsOf, Yba.underlying84]
  simp [Op.eqFields, p1, p2, eqP d a b w ha hb, run_equalIn_int w d 3 .i64 .i64 n m u3]
  by_cases e : a = b <;> by_cases e2 : n = m <;> simp [e, e2]

theorem eq86 (k k' : Key) (w : World) (h : Live w k) (h' : Live w k') : (Op.equalIn 10000 86 (keyV k) (keyV k')).run Yba.prog w = .ok (decide (k = k')) w := by
  have z : ∀ w : World, (sizeOf 84).run Yba.prog w = .ok 2 w := fun w => by kernel_rfl
  have p1 : ∀ x y u v : Value, (part 84 #[x, y, u, v] 0).run Yba.prog w = .ok (.agg #[x, y]) w := fun x y u v => by kernel_rfl
  have p2 : ∀ x y u v : Value, (part 84 #[x, y, u, v] 2).run Yba.prog w = .ok (.agg #[u, v]) w := fun x y u v => by kernel_rfl
  rw [show (10000 : Nat) = 9999 + 1 from rfl, Op.equalIn]
  unfold keyV keyC
  simp only [Sem.run_bind, run_underlying Yba.underlying86, Result.andThen_ok, z]
  simp only [Std.Legacy.Range.forIn_eq_forIn_range', Std.Legacy.Range.size, Nat.sub_zero, Nat.add_sub_cancel, Nat.div_one, List.range'_succ, List.range'_zero, List.forIn_cons, List.forIn_nil]
  simp [p1, p2, eq84 9997 _ _ _ _ w h.1 h'.1, eq84 9997 _ _ _ _ w h.2 h'.2]
  obtain ⟨a, n, b, m⟩ := k
  obtain ⟨a', n', b', m'⟩ := k'
  simp only [Key.mk.injEq]
  by_cases e1 : a = a' <;> by_cases e2 : n = n' <;> by_cases e3 : b = b' <;> by_cases e4 : m = m' <;> simp [e1, e2, e3, e4]

theorem check86 (em : Bool) (k : Key) (w : World) : (Instr.checkKey em 10000 86 (keyV k)).run Yba.prog w = .ok () w := by
  have z : ∀ w : World, (sizeOf 84).run Yba.prog w = .ok 2 w := fun w => by kernel_rfl
  have p1 : ∀ (x y u v : Value) (w : World), (part 84 #[x, y, u, v] 0).run Yba.prog w = .ok (.agg #[x, y]) w := fun x y u v w => by kernel_rfl
  have p2 : ∀ (x y u v : Value) (w : World), (part 84 #[x, y, u, v] 2).run Yba.prog w = .ok (.agg #[u, v]) w := fun x y u v w => by kernel_rfl
  have q1 : ∀ (x y : Value) (w : World), (part 56 #[x, y] 0).run Yba.prog w = .ok x w := fun x y w => by kernel_rfl
  have q2 : ∀ (x y : Value) (w : World), (part 3 #[x, y] 1).run Yba.prog w = .ok y w := fun x y w => by kernel_rfl
  have u56 : Yba.prog.underlying 56 = some (.pointer 58) := by kernel_rfl
  have c1 : ∀ (d : Nat) (a : Option Nat) (w : World), (Instr.checkKey em (d + 1) 56 (ptrV a)).run Yba.prog w = .ok () w := fun d a w => by
    simp [Instr.checkKey, run_underlying u56, ptrV]
  have c2 : ∀ (d : Nat) (a : Int) (w : World), (Instr.checkKey em (d + 1) 3 (.int .i64 a)).run Yba.prog w = .ok () w := fun d a w => by
    simp [Instr.checkKey, run_underlying Yba.underlying3]
  have c3 : ∀ (d : Nat) (a : Option Nat) (n : Int) (w : World), (Instr.checkKey em (d + 2) 84 (.agg #[ptrV a, .int .i64 n])).run Yba.prog w = .ok () w := fun d a n w => by
    rw [Instr.checkKey]
    simp only [Sem.run_bind, run_underlying Yba.underlying84, Result.andThen_ok]
    simp [q1, q2, c1, c2]
  rw [show (10000 : Nat) = 9999 + 1 from rfl, Instr.checkKey]
  unfold keyV keyC
  simp only [Sem.run_bind, run_underlying Yba.underlying86, Result.andThen_ok]
  simp only [Std.Legacy.Range.forIn_eq_forIn_range', Std.Legacy.Range.size, Nat.sub_zero, Nat.add_sub_cancel, Nat.div_one, List.range'_succ, List.range'_zero, List.forIn_cons, List.forIn_nil]
  simp [z, p1, p2, c3 9997]

/-- the entries are these keys with these values -/
def EntsAre (es : Array MapEntry) (l : List (Key × Value)) : Prop := es.toList.map (fun e => (e.key, e.val)) = l.map (fun p => (keyV p.1, p.2))
def findK (l : List (Key × Value)) (k : Key) : Option Value := (l.find? fun p => decide (k = p.1)).map (·.2)
/-- the first place of the key -/
def idxK (l : List (Key × Value)) (k : Key) : Nat := l.findIdx fun p => decide (k = p.1)

theorem asking (k : Key) (w : World) (hk : Live w k) : ∀ (es : List MapEntry) (l : List (Key × Value)) (i : Nat), es.map (fun e => (e.key, e.val)) = l.map (fun p => (keyV p.1, p.2)) → (∀ p ∈ l, Live w p.1) →
    (Instr.findAsking 86 (keyV k) es i).run Yba.prog w = .ok ((findK l k).map fun v => (i + idxK l k, v)) w
  | [], [], i, _, _ => by simp [Instr.findAsking, findK]
  | [], _ :: _, _, h, _ => by simp at h
  | _ :: _, [], _, h, _ => by simp at h
  | e :: es, p :: l, i, h, hl => by
    simp only [List.map_cons, List.cons.injEq, Prod.mk.injEq] at h
    obtain ⟨⟨h1, h2⟩, h3⟩ := h
    have ih := asking k w hk es l (i + 1) h3 (fun q hq => hl q (by simp [hq]))
    have he := eq86 k p.1 w hk (hl p (by simp))
    by_cases c : k = p.1
    · rw [c] at he
      simp [Instr.findAsking, h1, h2, Op.equal, Op.maxDepth, he, findK, idxK, c, List.findIdx_cons]
    · simp [Instr.findAsking, h1, Op.equal, Op.maxDepth, he, c, ih]
      simp [findK, idxK, c, List.findIdx_cons]
      cases (List.find? (fun p => decide (k = p.1)) l) with
      | none => rfl
      | some v => simp; omega
theorem find86 (k : Key) (w : World) (hk : Live w k) (es : Array MapEntry) (l : List (Key × Value)) (h : EntsAre es l) (hl : ∀ p ∈ l, Live w p.1) :
    (Instr.findKey 86 (keyV k) es.toList).run Yba.prog w = .ok ((findK l k).map fun v => (idxK l k, v)) w := by
  rw [run_findKey_eq w (by rw [Yba.underlying86])]
  have := asking k w hk es.toList l 0 h hl
  simpa using this
end Go.Proofs.Ybulkafyg
