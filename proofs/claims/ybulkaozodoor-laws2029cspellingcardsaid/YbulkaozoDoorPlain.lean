/-
  LAWS OF NO PROGRAM for this seat's walks; what a spelling is looked up to.
-/
import Derived.WalkKit
import Derived.WalkSpells
import Derived.Laws.Tables
import Derived.Laws.Rows
namespace Go.Proofs.YbulkaozoDoor
open Go.RowKit

/-! ### The plain look-up -/
/-- How each operator is written, in the operators' own order. -/
def spellL : List (List UInt8) := [[124, 124], [38, 38], [124], [94], [38], [61, 61], [33, 61], [61, 126], [33, 126], [60], [60, 61], [62], [62, 61], [60, 60], [62, 62], [43], [45], [42], [47], [37], [42, 42]]
def lookFrom : List (List UInt8) → Nat → List UInt8 → Int × Bool
  | [], _, _ => (0, false)
  | n :: r, i, x => if x == n then ((i : Int), true) else lookFrom r (i + 1) x
/-- The operator of a spelling, and whether there is one. -/
def look (x : List UInt8) : Int × Bool := lookFrom spellL 0 x
/-- What a token of kind 'k' and text 'x' stands for. -/
def res (k : Int) (x : List UInt8) : Int × Bool := if k = 32 ∨ k = 22 then look x else (0, false)

theorem lookFrom_hit (x : List UInt8) : ∀ (l : List (List UInt8)) (i k : Nat), (∀ j, j < k → l[j]? ≠ some x) → l[k]? = some x → lookFrom l i x = (((i + k : Nat) : Int), true)
  | [], _, _, _, h => by simp at h
  | n :: r, i, 0, _, h => by
    simp at h
    simp [lookFrom, h]
  | n :: r, i, k + 1, hno, h => by
    have h0 : ¬ x = n := fun e => hno 0 (by omega) (by simp [e])
    have ih := lookFrom_hit x r (i + 1) k (fun j hj => by simpa using hno (j + 1) (by omega)) (by simpa using h)
    rw [lookFrom, if_neg (by simpa using h0), ih]
    congr 2
    omega
theorem lookFrom_miss (x : List UInt8) : ∀ (l : List (List UInt8)) (i : Nat), (∀ j, j < l.length → l[j]? ≠ some x) → lookFrom l i x = (0, false)
  | [], _, _ => rfl
  | n :: r, i, hno => by
    have h0 : ¬ x = n := fun e => hno 0 (by simp) (by simp [e])
    rw [lookFrom, if_neg (by simpa using h0)]
    exact lookFrom_miss x r (i + 1) (fun j hj => by simpa using hno (j + 1) (by simp; omega))

/-! ### Operations, the world behind each a letter -/
theorem wpList_alloc_named {P : Program} {w : World} {ops : Array Oper} {rest : List Oper} {o : Oper} {a : Act} {Q : Exit → Act → World → Prop} (hgd : o.guard = none) (t : TypeId) (ho : o.op = .alloc t)
    (z : Value) (hz : ∀ w, (zeroValue t).run P w = .ok z w)
    (h : ∀ w', w'.heap[w.heap.size]? = some (.cells z.cells t (0, 0)) → w.grownBy w' none → w'.heap.size = w.heap.size + 1 → wpList P ops Q rest (a.put o.dst (.pointer (some ⟨w.heap.size, 0, none⟩))) w') : wpList P ops Q (o :: rest) a w := by
  refine wpList_plain hgd fun K hK => ?_
  unfold Oper.wp execOp
  simp only [ho, Instr.alloc, newVar, newRow, run_newObj_alloc, Sem.run_bind, Sem.run_pure, Result.andThen_ok, hz]
  exact hK _ _ (h _ (heap_alloc_new w _) (World.grownBy_alloc w _ none) (by simp))

theorem wpList_store_named {P : Program} {w : World} {ops : Array Oper} {rest : List Oper} {o : Oper} {a : Act} {Q : Exit → Act → World → Prop} (hgd : o.guard = none) (ty : TypeId) (x y : Operand) (ho : o.op = .store ty x y)
    (g : Nat) (cells : Array Value) (hx : a.eval x = .pointer (some ⟨g, 0, none⟩)) (hy : a.eval y = .agg cells)
    (t : TypeId) (old : Array Value) (hg : w.heap[g]? = some (.cells old t (0, 0))) (hi : (P.info? ty).map (·.size) = some cells.size)
    (hold : old.size = cells.size) (h1 : cells.all (·.oneCell') = true)
    (h : ∀ w', w'.heap[g]? = some (.cells cells t (0, 0)) → w.grownBy w' (some g) → w'.heap.size = w.heap.size → wpList P ops Q rest (a.put o.dst undef) w') : wpList P ops Q (o :: rest) a w :=
  wpList_store_row hgd ty x y ho g cells hx hy t old hg hi hold h1
    (h _ (setRow_heap w g old cells t _ hg) ⟨rfl, rfl, rfl, by simp, fun k _ hk => setRow_other w g k _ (fun e => hk (by simp [e]))⟩ (by simp))

theorem run_zero_of {P : Program} {t : TypeId} {z : Value} (h : (P.info? t).map (·.zero) = some (some z)) (w : World) : (zeroValue t).run P w = .ok z w := by
  obtain ⟨i, hi, hz⟩ := Option.map_eq_some_iff.1 h
  simp [zeroValue, typeInfo, hi, hz]


/-- An element of an array value that is itself a struct. -/
theorem wpList_index_part {P : Program} {w : World} {ops : Array Oper} {rest : List Oper} {o : Oper} {a : Act} {Q : Exit → Act → World → Prop} (hgd : o.guard = none) (t : TypeId) (x i : Operand) (ho : o.op = .index t x i)
    (n : Nat) (e : TypeId) (hu : P.underlying t = some (.array n e)) (fs : Array Field) (hue : P.underlying e = some (.struct fs)) (size : Nat) (hs : (P.info? e).map (·.size) = some size)
    (cs : Array Value) (hx : a.eval x = .agg cs) (k : Nat) (kk : IntKind) (hi : a.eval i = .int kk k) (hk : k < n) (sub : Array Value) (hsub : cs.extract (k * size) (k * size + size) = sub)
    (h : wpList P ops Q rest (a.put o.dst (.agg sub)) w) : wpList P ops Q (o :: rest) a w := by
  refine wpList_plain hgd fun K hK => ?_
  obtain ⟨ti, hti, hsz⟩ := Option.map_eq_some_iff.1 hs
  subst hsz
  have hagg : (isAgg e).run P w = .ok true w := by
    unfold isAgg
    rw [Sem.run_bind, run_underlying hue w]
    rfl
  have hrun : (Instr.index t (.agg cs) (.int kk k)).run P w = .ok (.agg sub) w := by
    simp [Instr.index, asIntOf, run_underlying hu, hk, part, hagg, sizeOf, typeInfo, hti, hsub]
  unfold Oper.wp execOp
  simp only [ho, hx, hi, Sem.run_bind, hrun, Result.andThen_ok]
  exact hK _ _ h

end Go.Proofs.YbulkaozoDoor
