/-
  THE WALK OF 'LawS2029CSpelling'.
-/
import Derived.Test.YbulkaozoDoorWant
import Derived.Test.YbulkaozoDoorSpelled
namespace Go.Proofs.YbulkaozoDoor
open Go.RowKit

/-- The eight kinds of token that the law picks from. -/
def kindsL (raw : Int) : List Int := [32, 22, 32, 3, 31, 0, 18, raw]
def kindsA (raw : Int) : Array Value := ((kindsL raw).map (Value.int .i64)).toArray
/-- The spellings that it picks from. -/
def textsL : List ByteArray := [{ data := #[124, 124] }, { data := #[38, 38] }, { data := #[124] }, { data := #[94] }, { data := #[38] }, { data := #[61, 61] }, { data := #[33, 61] }, { data := #[61, 126] }, { data := #[33, 126] }, { data := #[60] }, { data := #[60, 61] }, { data := #[62] }, { data := #[62, 61] }, { data := #[60, 60] }, { data := #[62, 62] }, { data := #[43] }, { data := #[45] }, { data := #[42] }, { data := #[47] }, { data := #[37] }, { data := #[42, 42] }, { data := #[43, 61] }, { data := #[33] }, { data := #[61] }, { data := #[42, 42, 42] }, { data := #[] }, { data := #[97] }]
def textsA : Array Value := (textsL.map Value.string).toArray

theorem Ybad.zero23 : (Ybad.prog.info? 23).map (·.zero) = some (some (.agg ((List.replicate 8 (Value.int .i64 0)).toArray))) := by kernel_rfl
theorem Ybad.zero24 : (Ybad.prog.info? 24).map (·.zero) = some (some (.agg ((List.replicate 27 (Value.string { data := #[] })).toArray))) := by kernel_rfl
theorem Ybad.size23 : (Ybad.prog.info? 23).map (·.size) = some 8 := by kernel_rfl
theorem Ybad.size24 : (Ybad.prog.info? 24).map (·.size) = some 27 := by kernel_rfl

theorem kinds_at (raw : Int) (j : Nat) (hj : j < 8) : ∃ k, (kindsA raw)[j]? = some (.int .i64 k) :=
  ⟨(kindsL raw)[j]'hj, by simp [kindsA, show j < (kindsL raw).length from hj]; rfl⟩
theorem texts_at (j : Nat) (hj : j < 27) : ∃ s, textsA[j]? = some (.string s) :=
  ⟨textsL[j]'hj, by simp [textsA, show j < textsL.length from hj]; rfl⟩
theorem kinds_one (raw : Int) : (kindsA raw).all (·.oneCell') = true := by simp [kindsA, kindsL, Value.oneCell']
theorem texts_one : textsA.all (·.oneCell') = true := by simp [textsA, textsL, Value.oneCell']

/-- A variable made, then stored whole: old memory is as it was. -/
theorem made {w w1 w2 : World} (h1 : w.grownBy w1 none) (h2 : w1.grownBy w2 (some w.heap.size)) : Below w.heap.size w w2 :=
  ((Below.refl _ _).grown h1 (Nat.le_refl _) (fun k hk => by cases hk)).grown h2 h1.size (fun k hk => by cases hk; exact Nat.le_refl _)

set_option maxHeartbeats 1000000 in
theorem law_walk (a0 a1 a2 a3 : Int) (a4 : ByteArray) (h00 : 0 ≤ a0) (h01 : a0 ≤ 255) (h20 : 0 ≤ a2) (h21 : a2 ≤ 255) (h30 : 0 ≤ a3) (h31 : a3 ≤ 255) (w : World) (hT : Tab w) (hw0 : 0 < w.heap.size) :
    Calls Ybad.prog 3 #[.int .u8 a0, .int .i64 a1, .int .u8 a2, .int .u8 a3, .string a4] w fun e w' => e = .returned (.bool true) ∧ Below w.heap.size w w' := by
  obtain ⟨j, hj8, hj⟩ : ∃ j : Nat, j < 8 ∧ a0 % 8 = (j : Int) := ⟨(a0 % 8).toNat, by omega, by omega⟩
  obtain ⟨i, hi27, hi⟩ : ∃ i : Nat, i < 27 ∧ a3 % 27 = (i : Int) := ⟨(a3 % 27).toNat, by omega, by omega⟩
  obtain ⟨k, hk⟩ := kinds_at a1 j hj8
  obtain ⟨tx, htx⟩ := texts_at i hi27
  have HK : Hid ((kindsA a1)[j]? = some (.int .i64 k)) := hk
  have HX : Hid (textsA[i]? = some (.string tx)) := htx
  clear hk htx
  by_cases h2 : a2 % 2 = 0
  · go_enter Ybad.func3, Ybad.ntmps3
    go_wp2_with (first
      | (refine wpList_alloc_named rfl 23 rfl _ (run_zero_of Ybad.zero23) ?_; intro w1 hg1 hgr1 hs1)
      | (refine wpList_store_named rfl 23 (.tmp 11) (.tmp 21) rfl w.heap.size (kindsA a1) rfl rfl 23 _ hg1 Ybad.size23 rfl (kinds_one a1) ?_; intro w2 hg2 hgr2 hs2; have hc2 : w2.cell? ⟨w.heap.size, j, none⟩ = some (.int .i64 k) := (cell_of_row w2 _ j _ _ _ hg2).trans HK.out; have hb2 := made hgr1 hgr2; have hl2 : w.heap.size < w2.heap.size := (by omega); clear hs1 hs2 hg1 hgr1 hgr2)
      | (refine wpList_alloc_named rfl 24 rfl _ (run_zero_of Ybad.zero24) ?_; intro w3 hg3 hgr3 hs3)
      | (refine wpList_store_named rfl 24 (.tmp 13) (.tmp 27) rfl w2.heap.size textsA rfl rfl 24 _ hg3 Ybad.size24 rfl texts_one ?_; intro w4 hg4 hgr4 hs4; have hc4 : w4.cell? ⟨w2.heap.size, i, none⟩ = some (.string tx) := (cell_of_row w4 _ i _ _ _ hg4).trans HX.out; have hb4 := made hgr3 hgr4; have hl4 : w2.heap.size < w4.heap.size := (by omega); clear hs3 hs4 hg3 hgr3 hgr4))
    have hB4 : Below w.heap.size w w4 := hb2.trans (hb4.mono (by omega))
    have hs4 := hB4.size
    have hBn : ∀ o, Below w.heap.size w (w4.alloc o) := fun o => hB4.alloc hs4 o
    refine (binop_any w4.heap.size k tx _ (hT.below (hBn _) hw0) ?_ ?_).mono ?_
    · rw [World.cell?_alloc_new]; rfl
    · rw [World.cell?_alloc_new]; rfl
    rintro e w5 ⟨rfl, hb5⟩
    have hB5 : Below w.heap.size w w5 := (hBn _).trans (hb5.mono (by simp; omega))
    clear hb5 hBn
    go_wp2_with (go_at_call 5; refine (want_any k tx _).mono ?_; rintro e w6 ⟨rfl, rfl⟩)
    go_ret
    exact ⟨rfl, hB5⟩
  · have h2' : a2 % 2 = 1 := by omega
    clear h2
    go_enter Ybad.func3, Ybad.ntmps3
    go_wp2_with (first
      | (refine wpList_alloc_named rfl 23 rfl _ (run_zero_of Ybad.zero23) ?_; intro w1 hg1 hgr1 hs1)
      | (refine wpList_store_named rfl 23 (.tmp 11) (.tmp 21) rfl w.heap.size (kindsA a1) rfl rfl 23 _ hg1 Ybad.size23 rfl (kinds_one a1) ?_; intro w2 hg2 hgr2 hs2; have hc2 : w2.cell? ⟨w.heap.size, j, none⟩ = some (.int .i64 k) := (cell_of_row w2 _ j _ _ _ hg2).trans HK.out; have hb2 := made hgr1 hgr2; have hl2 : w.heap.size < w2.heap.size := (by omega); clear hs1 hs2 hg1 hgr1 hgr2)
      | (refine wpList_alloc_named rfl 24 rfl _ (run_zero_of Ybad.zero24) ?_; intro w3 hg3 hgr3 hs3)
      | (refine wpList_store_named rfl 24 (.tmp 13) (.tmp 27) rfl w2.heap.size textsA rfl rfl 24 _ hg3 Ybad.size24 rfl texts_one ?_; intro w4 hg4 hgr4 hs4; have hc4 : w4.cell? ⟨w2.heap.size, i, none⟩ = some (.string tx) := (cell_of_row w4 _ i _ _ _ hg4).trans HX.out; have hb4 := made hgr3 hgr4; have hl4 : w2.heap.size < w4.heap.size := (by omega); clear hs3 hs4 hg3 hgr3 hgr4))
    have hB4 : Below w.heap.size w w4 := hb2.trans (hb4.mono (by omega))
    have hs4 := hB4.size
    have hBn : ∀ o, Below w.heap.size w (w4.alloc o) := fun o => hB4.alloc hs4 o
    refine (binop_any w4.heap.size k a4 _ (hT.below (hBn _) hw0) ?_ ?_).mono ?_
    · rw [World.cell?_alloc_new]; rfl
    · rw [World.cell?_alloc_new]; rfl
    rintro e w5 ⟨rfl, hb5⟩
    have hB5 : Below w.heap.size w w5 := (hBn _).trans (hb5.mono (by simp; omega))
    clear hb5 hBn
    go_wp2_with (go_at_call 5; refine (want_any k a4 _).mono ?_; rintro e w6 ⟨rfl, rfl⟩)
    go_ret
    exact ⟨rfl, hB5⟩

end Go.Proofs.YbulkaozoDoor
