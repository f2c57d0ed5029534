/-
  THE CONTRACTS OF 'binaryOpSpelled' AND '(*parser).binaryOp', where the table of operators reads as the program's text lays it.
-/
import Derived.Test.YbulkaozoDoorRows
import Derived.Test.YbulkaozoDoorPlain
import Derived.WalkLawsBesides
namespace Go.Proofs.YbulkaozoDoor
open Go.RowKit

/-- The table of operators in block 0: twenty-one rows, each opening with its spelling. -/
def Tab (w : World) : Prop := ∃ (cs : Array Value) (t : TypeId) (fr : Nat × Nat), w.heap[0]? = some (.cells cs t fr) ∧ cs.size = 84 ∧
  ∀ k, k < 21 → ∃ (nm : ByteArray) (p : Int) (r : Bool) (c : Int), spellL[k]? = some nm.toList ∧ cs.extract (k * 4) (k * 4 + 4) = #[.string nm, .int .i64 p, .bool r, .int .i64 c]
theorem Tab.below {w w' : World} {B : Nat} (h : Tab w) (hb : Below B w w') (hB : 0 < B) : Tab w' := by
  obtain ⟨cs, t, fr, h1, h2⟩ := h
  exact ⟨cs, t, fr, by rw [hb.block 0 hB]; exact h1, h2⟩

theorem Ybad.size44 : (Ybad.prog.info? 44).map (·.size) = some 84 := by kernel_rfl
theorem Ybad.size43 : (Ybad.prog.info? 43).map (·.size) = some 4 := by kernel_rfl

theorem look_hit {x : List UInt8} {nm : List UInt8} {k : Nat} (hno : ∀ j, j < k → spellL[j]? ≠ some x) (h : spellL[k]? = some nm) (he : (nm == x) = true) : look x = ((k : Int), true) := by
  have e : nm = x := by simpa using he
  have := lookFrom_hit x spellL 0 k hno (by rw [h, e])
  rw [Nat.zero_add] at this
  exact this
theorem look_on {x : List UInt8} {nm : List UInt8} {k : Nat} (hno : ∀ j, j < k → spellL[j]? ≠ some x) (h : spellL[k]? = some nm) (he : (nm == x) = false) : ∀ j, j < k + 1 → spellL[j]? ≠ some x := by
  intro j hj
  by_cases e : j = k
  · subst e
    rw [h]
    intro e
    have : nm = x := Option.some.inj e
    rw [this] at he
    simp at he
  · exact hno j (by omega)
theorem look_miss {x : List UInt8} (hno : ∀ j, j < 21 → spellL[j]? ≠ some x) : look x = (0, false) := lookFrom_miss x spellL 0 hno

set_option maxHeartbeats 1000000 in
theorem spelled_any (s : ByteArray) (w : World) (hT : Tab w) : Calls Ybad.prog 6 #[.string s] w fun e w' => e = .returned (.tuple #[.int .i64 (look s.toList).1, .bool (look s.toList).2]) ∧ Below w.heap.size w w' := by
  obtain ⟨cs, t, fr, hg, hsz, hrow⟩ := hT
  have hi44 : (Ybad.prog.info? 44).map (·.size) = some cs.size := by rw [hsz]; exact Ybad.size44
  go_enter Ybad.func6, Ybad.ntmps6
  go_wp2_with (refine wpList_load_row rfl 44 (.global 0) rfl 0 rfl t cs fr _ hg Ybad.underlying44 rfl hi44 ?_)
  go_loopw [7] (fun i wr => ∃ k : Nat, k ≤ 21 ∧ i = .int .i64 k ∧ Hid (∀ j, j < k → spellL[j]? ≠ some s.toList) ∧ Below w.heap.size w wr) (fun i _ => 21 - (intOf i).toNat)
  case atStart => exact ⟨0, Nat.zero_le _, rfl, fun j hj => absurd hj (Nat.not_lt_zero _), Below.refl _ _⟩
  case round =>
    obtain ⟨k, hk, rfl, HNo, hbel⟩ := hrel
    have hw := hbel.size
    by_cases hlt : k < 21
    · obtain ⟨nm, p, r, c, hsp, hex⟩ := hrow k hlt
      have HSP : Hid (spellL[k]? = some nm.toList) := hsp
      have HEX : Hid (cs.extract (k * 4) (k * 4 + 4) = #[.string nm, .int .i64 p, .bool r, .int .i64 c]) := hex
      clear hrow hsp hex hsz hg hi44
      by_cases heq : (nm.toList == s.toList) = true
      · go_wp2_with (refine wpList_index_part rfl 44 (.tmp 6) (.tmp 7) rfl 21 43 Ybad.underlying44 _ Ybad.underlying43 4 Ybad.size43 cs rfl k .i64 rfl hlt _ HEX.out ?_)
        go_ret2
        refine ⟨?_, hbel.alloc hw _⟩
        rw [look_hit HNo.out HSP.out heq]
        rfl
      · have heq' : (nm.toList == s.toList) = false := by simpa using heq
        clear heq
        go_wp2_with (refine wpList_index_part rfl 44 (.tmp 6) (.tmp 7) rfl 21 43 Ybad.underlying44 _ Ybad.underlying43 4 Ybad.size43 cs rfl k .i64 rfl hlt _ HEX.out ?_)
        go_roundw
        case rel => exact ⟨k + 1, by omega, by go_num, look_on HNo.out HSP.out heq', hbel.alloc hw _⟩
        case measure => simp [intOf]; omega
    · obtain rfl : k = 21 := by omega
      clear hrow hsz hg hi44
      go_wp2
      go_ret2
      refine ⟨?_, hbel⟩
      rw [look_miss HNo.out]
      rfl

set_option maxHeartbeats 400000 in
theorem binop_no (b : Nat) (k : Int) (w : World) (h1 : ¬ k = 32) (h2 : ¬ k = 22) (hk : w.cell? ⟨b, 1, none⟩ = some (.int .i64 k)) :
    Calls Ybad.prog 4 #[.pointer (some ⟨b, 0, none⟩)] w fun e w' => e = .returned (.tuple #[.int .i64 0, .bool false]) ∧ Below w.heap.size w w' := by
  have b1 : (k != 32) = true := by simpa using h1
  have b2 : (k != 22) = true := by simpa using h2
  clear h1 h2
  go_enter Ybad.func4, Ybad.ntmps4
  go_wp2
  go_ret2
  exact ⟨rfl, Below.refl _ _⟩

set_option maxHeartbeats 400000 in
theorem binop_yes (b : Nat) (k : Int) (s : ByteArray) (w : World) (h : k = 32 ∨ k = 22) (hT : Tab w) (hk : w.cell? ⟨b, 1, none⟩ = some (.int .i64 k)) (hs : w.cell? ⟨b, 2, none⟩ = some (.string s)) :
    Calls Ybad.prog 4 #[.pointer (some ⟨b, 0, none⟩)] w fun e w' => e = .returned (.tuple #[.int .i64 (look s.toList).1, .bool (look s.toList).2]) ∧ Below w.heap.size w w' := by
  rcases h with rfl | rfl
  all_goals
    go_enter Ybad.func4, Ybad.ntmps4
    go_wp2_with (go_at_call 6; refine (spelled_any s _ hT).mono ?_; rintro e w1 ⟨rfl, hb1⟩)
    go_ret2
    exact ⟨rfl, hb1⟩

theorem binop_any (b : Nat) (k : Int) (s : ByteArray) (w : World) (hT : Tab w) (hk : w.cell? ⟨b, 1, none⟩ = some (.int .i64 k)) (hs : w.cell? ⟨b, 2, none⟩ = some (.string s)) :
    Calls Ybad.prog 4 #[.pointer (some ⟨b, 0, none⟩)] w fun e w' => e = .returned (.tuple #[.int .i64 (res k s.toList).1, .bool (res k s.toList).2]) ∧ Below w.heap.size w w' := by
  by_cases h : k = 32 ∨ k = 22
  · rw [res, if_pos h]
    exact binop_yes b k s w h hT hk hs
  · rw [res, if_neg h]
    exact binop_no b k w (fun e => h (.inl e)) (fun e => h (.inr e)) hk

end Go.Proofs.YbulkaozoDoor
