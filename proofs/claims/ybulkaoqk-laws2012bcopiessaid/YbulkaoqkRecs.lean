/-
  LAWS OF NO PROGRAM for the walks over records: whole variables made, boxed, stored, read, with the world behind each a letter; what a slot, a record and a context look like in cells.
-/
import Derived.Test.YbulkaoqkPlain
import Derived.Deep.MidRow
import Derived.Great.BuildSlice
namespace Go.Proofs.Ybulkaoqk
open Go.RowKit

/-! ### Four operations, the world behind each a letter -/
theorem wpList_alloc_named {P : Program} {w : World} {ops : Array Oper} {rest : List Oper} {o : Oper} {a : Act} {Q : Exit → Act → World → Prop} (hgd : o.guard = none) (t : TypeId) (ho : o.op = .alloc t)
    (z : Value) (hz : ∀ w, (zeroValue t).run P w = .ok z w)
    (h : ∀ w', w'.heap[w.heap.size]? = some (.cells z.cells t (0, 0)) → w.grownBy w' none → w'.heap.size = w.heap.size + 1 → wpList P ops Q rest (a.put o.dst (.pointer (some ⟨w.heap.size, 0, none⟩))) w') : wpList P ops Q (o :: rest) a w := by
  refine wpList_plain hgd fun K hK => ?_
  unfold Oper.wp execOp
  simp only [ho, Instr.alloc, newVar, newRow, run_newObj_alloc, Sem.run_bind, Sem.run_pure, Result.andThen_ok, hz]
  exact hK _ _ (h _ (heap_alloc_new w _) (World.grownBy_alloc w _ none) (by simp))

theorem wpList_box_named {P : Program} {w : World} {ops : Array Oper} {rest : List Oper} {o : Oper} {a : Act} {Q : Exit → Act → World → Prop} (hgd : o.guard = none) (t : TypeId) (x : Operand) (ho : o.op = .box t x)
    (cs : Array Value) (hx : a.eval x = .agg cs)
    (h : ∀ w', w'.heap[w.heap.size]? = some (.cells cs t (0, 0)) → w.grownBy w' none → w'.heap.size = w.heap.size + 1 → wpList P ops Q rest (a.put o.dst (.pointer (some ⟨w.heap.size, 0, none⟩))) w') : wpList P ops Q (o :: rest) a w := by
  refine wpList_plain hgd fun K hK => ?_
  unfold Oper.wp execOp
  simp only [ho, hx, Instr.box, newVar, newRow, run_newObj_alloc, Sem.run_bind, Sem.run_pure, Result.andThen_ok, Value.cells]
  exact hK _ _ (h _ (heap_alloc_new w _) (World.grownBy_alloc w _ none) (by simp))

theorem wpList_store_named {P : Program} {w : World} {ops : Array Oper} {rest : List Oper} {o : Oper} {a : Act} {Q : Exit → Act → World → Prop} (hgd : o.guard = none) (ty : TypeId) (x y : Operand) (ho : o.op = .store ty x y)
    (g : Nat) (cells : Array Value) (hx : a.eval x = .pointer (some ⟨g, 0, none⟩)) (hy : a.eval y = .agg cells)
    (t : TypeId) (old : Array Value) (hg : w.heap[g]? = some (.cells old t (0, 0))) (hi : (P.info? ty).map (·.size) = some cells.size)
    (hold : old.size = cells.size) (h1 : cells.all (·.oneCell') = true)
    (h : ∀ w', w'.heap[g]? = some (.cells cells t (0, 0)) → w.grownBy w' (some g) → w'.heap.size = w.heap.size → wpList P ops Q rest (a.put o.dst undef) w') : wpList P ops Q (o :: rest) a w :=
  wpList_store_row hgd ty x y ho g cells hx hy t old hg hi hold h1
    (h _ (setRow_heap w g old cells t _ hg) ⟨rfl, rfl, rfl, by simp, fun k _ hk => setRow_other w g k _ (fun e => hk (by simp [e]))⟩ (by simp))

theorem fill_one (size : Nat) (old cs : Array Value) (h1 : cs.size = size) (h2 : old.size = size) : Instr.fill (fun i => some (i * size, size)) old [(0, .agg cs)] = some cs := by
  have key : ∀ (l : List Value) (k : Nat) (acc : Array Value), k + l.length = acc.size → ((l.zipIdx k).foldl (fun (acc : Array Value) (p : Value × Nat) => acc.setIfInBounds (0 * size + p.2) p.1) acc).toList = acc.toList.take k ++ l := by
    intro l
    induction l with
    | nil => intro k acc hk; simp at hk; simp [hk, List.take_of_length_le]
    | cons x r ih =>
      intro k acc hk
      simp only [List.zipIdx_cons, List.foldl_cons, Nat.zero_mul, Nat.zero_add] at ih ⊢
      rw [ih (k + 1) _ (by simp at hk ⊢; omega)]
      have hk' : k < acc.toList.length := by simp at hk ⊢; omega
      rw [Array.toList_setIfInBounds, List.take_succ_eq_append_getElem (by simpa using hk'), List.take_set_of_le (Nat.le_refl _)]
      simp
  have e2 : (Value.agg cs).cells = cs := rfl
  unfold Instr.fill
  rw [e2]
  simp only
  rw [if_neg (by simp; omega)]
  unfold Instr.fill
  refine congrArg some (Array.ext' ?_)
  have := key cs.toList 0 old (by simp; omega)
  rw [← Array.foldl_toList]
  simpa [Array.toList_zipIdx] using this

theorem wpList_buildSlice_one {P : Program} {w : World} {ops : Array Oper} {rest : List Oper} {o : Oper} {a : Act} {Q : Exit → Act → World → Prop} (hgd : o.guard = none) (t : TypeId) (x : Operand) (ho : o.op = .buildSlice t 1 #[(0, x)])
    (e : TypeId) (hu : P.underlying t = some (.slice e)) (i : TypeInfo) (z : Value) (size : Nat) (hi : P.info? e = some i) (hz : i.zero = some z) (hs : i.size = size) (hsz : 0 < size) (hsm : size ≤ 16777216)
    (cs : Array Value) (hx : a.eval x = .agg cs) (hc : cs.size = size)
    (h : ∀ w', w'.heap[w.heap.size]? = some (.cells cs e (0, 0)) → w.grownBy w' none → w'.heap.size = w.heap.size + 1 → wpList P ops Q rest (a.put o.dst (.slice (some ⟨w.heap.size, 0, none⟩) 1 1)) w') : wpList P ops Q (o :: rest) a w := by
  subst hs
  refine wpList_buildSlice hgd t e 1 #[(0, x)] ho cs i z hu hi hz (by omega) (by omega) ?_ (h _ (heap_alloc_new w _) (World.grownBy_alloc w _ none) (by simp))
  simp only [List.map_toArray, List.map_cons, List.map_nil, hx]
  exact fill_one i.size _ cs hc (by simp)

theorem run_zero_of {P : Program} {t : TypeId} {z : Value} (h : (P.info? t).map (·.zero) = some (some z)) (w : World) : (zeroValue t).run P w = .ok z w := by
  obtain ⟨i, hi, hz⟩ := Option.map_eq_some_iff.1 h
  simp [zeroValue, typeInfo, hi, hz]

/-! ### What lies in memory -/
/-- One slot of the law's argument. -/
structure Slot where
  st : Int
  ti : Int
  apn : ByteArray
  ex : Int

/-- Its numbers fit their kinds. -/
structure Slot.Ok (s : Slot) : Prop where
  st0 : 0 ≤ s.st
  st1 : s.st ≤ 255
  ti0 : 0 ≤ s.ti
  ti1 : s.ti ≤ 255

/-- A slot's cells. -/
def sc (s : Slot) : List Value := [.int .u8 s.st, .int .u8 s.ti, .string s.apn, .int .i64 s.ex]
/-- The cells of a PDPContext made from slot 's' at place 'k'. -/
def pdp (k : Nat) (s : Slot) : List Value := [.int .u8 k, .int .u8 s.ti, .int .u8 (s.st % 4), .int .u64 0, .int .u64 0, .pointer none, .int .u64 0, .int .u64 0, .pointer none, .string s.apn, .int .u8 0, .int .i64 0, .int .i64 s.ex]
/-- The cells of an Event that nobody wrote. -/
def ev0 : List Value := [.int .u8 0, .int .u8 0, .int .u8 0, .slice none 0 0, .int .u8 0, .int .u8 0, .int .u8 0, .int .i64 0, .int .i64 0]
/-- A record's cells. -/
def rcd (k : Nat) (s : Slot) : List Value := pdp k s ++ ev0
def slot0 : Slot := ⟨0, 0, ByteArray.empty, 0⟩
theorem sc_length (s : Slot) : (sc s).length = 4 := rfl
theorem pdp_length (k : Nat) (s : Slot) : (pdp k s).length = 13 := rfl
theorem rcd_length (k : Nat) (s : Slot) : (rcd k s).length = 22 := rfl
theorem pdp_one (k : Nat) (s : Slot) : ∀ u ∈ pdp k s, u.oneCell' = true := by
  intro u hu
  simp only [pdp, List.mem_cons, List.not_mem_nil, or_false] at hu
  rcases hu with rfl | rfl | rfl | rfl | rfl | rfl | rfl | rfl | rfl | rfl | rfl | rfl | rfl <;> rfl
theorem rcd_one (k : Nat) (s : Slot) : ∀ u ∈ rcd k s, u.oneCell' = true := by
  intro u hu
  rcases List.mem_append.1 hu with h | h
  · exact pdp_one k s u h
  · simp only [ev0, List.mem_cons, List.not_mem_nil, or_false] at h
    rcases h with rfl | rfl | rfl | rfl | rfl | rfl | rfl | rfl | rfl <;> rfl

/-- The records in block g: those before 'k' are built, the others as they were made. -/
def Recs (w : World) (g : Nat) (s : Nat → Slot) (k : Nat) : Prop := ∀ i, i < 16 → w.rangeAt g (i * 22) (if i < k then rcd i (s i) else rcd 0 slot0)

/-- The slots in block b. -/
def Slots (w : World) (b : Nat) (s : Nat → Slot) : Prop := ∀ i, i < 16 → w.rangeAt b (i * 4) (sc (s i))

theorem rangeAt_below {w w' : World} {B b o : Nat} {cs : List Value} (h : w.rangeAt b o cs) (hb : Below B w w') (hB : b < B) : w'.rangeAt b o cs := fun j v hj => (hb.cell (p := ⟨b, o + j, none⟩) hB).trans (h j v hj)
theorem Slots.below {w w' : World} {B b : Nat} {s : Nat → Slot} (h : Slots w b s) (hb : Below B w w') (hB : b < B) : Slots w' b s := fun i hi => rangeAt_below (h i hi) hb hB
theorem Recs.below {w w' : World} {B b k : Nat} {s : Nat → Slot} (h : Recs w b s k) (hb : Below B w w') (hB : b < B) : Recs w' b s k := fun i hi => rangeAt_below (h i hi) hb hB

/-! ### One cell stored -/
theorem rangeAt_setCell_other {w : World} {b o : Nat} {cs : List Value} (h : w.rangeAt b o cs) (o' : Nat) (v : Value) (hne : o' < o ∨ o + cs.length ≤ o') : (w.setCell ⟨b, o', none⟩ v).rangeAt b o cs := fun j u hj => by
  have hl : j < cs.length := (List.getElem?_eq_some_iff.1 hj).1
  rw [World.cell?_setCell_other _ _ _ _ (by intro e; simp only [Addr.mk.injEq, true_and, and_true] at e; omega)]
  exact h j u hj
theorem rangeAt_setCell_in {w : World} {b o : Nat} {cs : List Value} (h : w.rangeAt b o cs) (j : Nat) (v : Value) (hj : j < cs.length) : (w.setCell ⟨b, o + j, none⟩ v).rangeAt b o (cs.set j v) := fun i u hi => by
  by_cases e : i = j
  · subst e
    rw [World.cell?_setCell_same _ _ _ (h i _ (List.getElem?_eq_getElem hj))]
    rw [List.getElem?_set_self hj] at hi
    exact hi
  · rw [World.cell?_setCell_other _ _ _ _ (by intro e'; simp only [Addr.mk.injEq, true_and, and_true] at e'; omega)]
    rw [List.getElem?_set_ne (by omega)] at hi
    exact h i u hi
theorem there_setCell {w : World} {b o n : Nat} (h : w.there b o n) (a : Addr) (v : Value) : (w.setCell a v).there b o n := fun j hj => by
  obtain ⟨h1, h2⟩ := h j hj
  obtain ⟨u, hu⟩ := Option.isSome_iff_exists.1 h1
  refine ⟨?_, by simpa using h2⟩
  by_cases e : a = ⟨b, o + j, none⟩
  · subst e; rw [World.cell?_setCell_same _ _ _ hu]; rfl
  · rw [World.cell?_setCell_other _ _ _ _ e, hu]; rfl

/-- THE ROUND OF 'zzs2012bbuild': five cells of record k are stored. -/
theorem rec_step {wr : World} {g k : Nat} {s : Nat → Slot} (hrec : Recs wr g s k) (hlt : k < 16) {st ti ex : Int} {apn : ByteArray} (hs : s k = ⟨st, ti, apn, ex⟩) :
    Recs (((((wr.setCell ⟨g, k * 22, none⟩ (.int .u8 k)).setCell ⟨g, k * 22 + 1, none⟩ (.int .u8 ti)).setCell ⟨g, k * 22 + 2, none⟩ (.int .u8 (st % 4))).setCell ⟨g, k * 22 + 9, none⟩ (.string apn)).setCell ⟨g, k * 22 + 12, none⟩ (.int .i64 ex)) g s (k + 1) := by
  intro i hi
  have h := hrec i hi
  by_cases e : i = k
  · subst e
    rw [if_neg (Nat.lt_irrefl i)] at h
    rw [if_pos (by omega), hs]
    exact rangeAt_setCell_in (rangeAt_setCell_in (rangeAt_setCell_in (rangeAt_setCell_in (rangeAt_setCell_in h 0 (.int .u8 i) (by simp [rcd_length])) 1 (.int .u8 ti) (by simp [rcd_length])) 2 (.int .u8 (st % 4)) (by simp [rcd_length])) 9 (.string apn) (by simp [rcd_length])) 12 (.int .i64 ex) (by simp [rcd_length])
  · have ec : (if i < k + 1 then rcd i (s i) else rcd 0 slot0) = (if i < k then rcd i (s i) else rcd 0 slot0) := by
      by_cases hik : i < k
      · rw [if_pos hik, if_pos (by omega)]
      · rw [if_neg hik, if_neg (by omega)]
    have hl : (if i < k then rcd i (s i) else rcd 0 slot0).length = 22 := by split <;> rfl
    rw [ec]
    exact rangeAt_setCell_other (rangeAt_setCell_other (rangeAt_setCell_other (rangeAt_setCell_other (rangeAt_setCell_other h _ _ (by omega)) _ _ (by omega)) _ _ (by omega)) _ _ (by omega)) _ _ (by omega)

theorem Recs.alloc {w : World} {g k : Nat} {s : Nat → Slot} (h : Recs w g s k) (o : Obj) : Recs (w.alloc o) g s k := fun i hi => World.rangeAt_alloc (h i hi) o

/-- A block that is known whole: its cells are there and may be written. -/
theorem there_of_block {w : World} {b : Nat} {C : Array Value} {t : TypeId} (hb : w.heap[b]? = some (.cells C t (0, 0))) (n : Nat) (hn : n ≤ C.size) : w.there b 0 n := fun j hj => by
  refine ⟨?_, ?_⟩
  · rw [cell_of_row w b (0 + j) C t (0, 0) hb]
    simp
    omega
  · simp [World.frozen?, hb]
theorem range_of_block {w : World} {b : Nat} {L : List Value} {t : TypeId} (hb : w.heap[b]? = some (.cells L.toArray t (0, 0))) (o n : Nat) (cs : List Value) (hc : (L.drop o).take n = cs) : w.rangeAt b o cs := fun j v hv => by
  rw [cell_of_row w b (o + j) _ t (0, 0) hb]
  rw [← hc, List.getElem?_take] at hv
  split at hv
  · simpa using hv
  · cases hv

end Go.Proofs.Ybulkaoqk
