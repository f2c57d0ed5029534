/-
  AN ARRAY OF SIXTEEN SLOTS THAT CAME IN, OPENED: its sixty-four cells are the cells of sixteen slots whose numbers fit.
-/
import Derived.Test.YbulkaoqkKeepsWalk
import Derived.WalkKit
import Derived.ProofKit
import Derived.OpenShut
import Derived.ShutString
import Derived.Lib.SmallJoins
namespace Go.Proofs.Ybulkaoqk
open Go.ChangeShapes Go.WideShapes Go.ChangeAt Go.RowKit

theorem Yba.cells29 : Yba.prog.cellsOf 29 = 64 := by kernel_rfl
theorem Yba.cells28 : Yba.prog.cellsOf 28 = 4 := by kernel_rfl
theorem Yba.cells5 : Yba.prog.cellsOf 5 = 1 := by kernel_rfl
theorem Yba.cells9 : Yba.prog.cellsOf 9 = 1 := by kernel_rfl
theorem Yba.cells3 : Yba.prog.cellsOf 3 = 1 := by kernel_rfl

theorem pieces {L M : List Value} (hL : L.length = 64) (hM : M.length = 64) (h : ∀ i, i < 16 → (L.drop (i * 4)).take 4 = (M.drop (i * 4)).take 4) : L = M := by
  apply List.ext_getElem?
  intro n
  by_cases hn : n < 64
  · have e := congrArg (fun l => l[n % 4]?) (h (n / 4) (by omega))
    simp only [List.getElem?_take, List.getElem?_drop] at e
    rw [if_pos (by omega), if_pos (by omega), show n / 4 * 4 + n % 4 = n by omega] at e
    exact e
  · rw [List.getElem?_eq_none (by omega), List.getElem?_eq_none (by omega)]

theorem scs_length (s : Nat → Slot) : (scs s).length = 64 := rfl

section
variable {H : Type} {enc : TypeId × Value → H} {w : World} {base : Nat} {spare : Nat → Bool} {held : Bool}

theorem open_slot {fuel : Nat} {cs : List Value} {x : DataW H × List MemPlace} (h : DataW.trod enc Yba.prog w base spare held fuel 28 cs = some x) : ∃ s : Slot, s.Ok ∧ cs = sc s := by
  obtain ⟨y0, y1, y2, y3, n, _, hl, h0, h1, h2, h3⟩ := Joins.trod_struct4 Yba.underlying28 h
  rw [Yba.cells28] at hl
  obtain ⟨c0, c1, c2, c3, rfl⟩ : ∃ c0 c1 c2 c3, cs = [c0, c1, c2, c3] := by
    match cs, hl with
    | [c0, c1, c2, c3], _ => exact ⟨c0, c1, c2, c3, rfl⟩
  simp only [Yba.cells5, Yba.cells9, Yba.cells3] at h0 h1 h2 h3
  obtain ⟨st, e0, _, w0⟩ := DataW.trod_int Yba.underlying5 h0
  obtain ⟨ti, e1, _, w1⟩ := DataW.trod_int Yba.underlying5 h1
  obtain ⟨apn, e2, _, _⟩ := DataW.trod_string Yba.underlying9 h2
  obtain ⟨ex, e3, _, _⟩ := DataW.trod_int Yba.underlying3 h3
  simp at e0 e1 e2 e3
  subst e0 e1 e2 e3
  have b0 := bounds_u8 w0
  have b1 := bounds_u8 w1
  exact ⟨⟨st, ti, apn, ex⟩, ⟨b0.1, b0.2, b1.1, b1.2⟩, rfl⟩

theorem open_slots {r : Reach} {b0 : Nat} {v : Value} {d : DataW H} {p : List MemPlace} (hv : Value.okWide Yba.prog w r b0 29 v) (h : DataW.Trod enc Yba.prog w base spare held 29 v d p) :
    ∃ s : Nat → Slot, (∀ i, (s i).Ok) ∧ v = .agg (scs s).toArray := by
  obtain ⟨cs, rfl, hsz⟩ : ∃ cs, v = .agg cs ∧ cs.size = Yba.prog.cellsOf 29 := by
    simp only [Value.okWide, Yba.underlying29] at hv
    obtain ⟨cs, h1, h2, _⟩ := hv
    exact ⟨cs, h1, h2⟩
  rw [Yba.cells29] at hsz
  obtain ⟨fuel, hf⟩ := h
  obtain ⟨xs, m, _, _, _, hlen, hel⟩ := DataW.trod_array Yba.underlying29 hf
  have hpart : ∀ i, i < 16 → ∃ s : Slot, s.Ok ∧ (cs.toList.drop (i * 4)).take 4 = sc s := by
    intro i hi
    have he := hel i hi
    rw [List.getElem?_eq_getElem (by omega), Yba.cells28] at he
    exact open_slot he
  have hall : ∀ i, ∃ s : Slot, s.Ok ∧ (i < 16 → (cs.toList.drop (i * 4)).take 4 = sc s) := by
    intro i
    by_cases hi : i < 16
    · obtain ⟨s, h1, h2⟩ := hpart i hi
      exact ⟨s, h1, fun _ => h2⟩
    · exact ⟨slot0, ⟨by decide, by decide, by decide, by decide⟩, fun h => absurd h hi⟩
  refine ⟨fun i => (hall i).choose, fun i => (hall i).choose_spec.1, ?_⟩
  have e : cs.toList = scs (fun i => (hall i).choose) := pieces (by simpa using hsz) (scs_length _) (fun i hi => by
    rw [scs_at _ i hi]
    exact (hall i).choose_spec.2 hi)
  rw [← e]
end

end Go.Proofs.Ybulkaoqk
