/-
  THE CONTRACT OF 'zzs2019bcopy': a copy in new memory.
-/
import Derived.Test.YbulkaoueDoorRows
import Derived.Test.YbulkaoueDoorPlain
import Derived.WalkLawsBesides
namespace Go.Proofs.YbulkaoueDoor
open Go.RowKit

theorem Ybad.info5 : (Ybad.prog.info? 5).map (fun i => (i.zero, i.size, i.bytes)) = some (some (.int .u8 0), 1, 1) := by kernel_rfl
theorem Ybad.size5 : (Ybad.prog.info? 5).map (·.size) = some 1 := by kernel_rfl

theorem splice_whole (Z X : List Value) (h : Z.length = X.length) : splice Z 0 X = X := by
  simp [splice]; omega

set_option maxHeartbeats 400000 in
theorem copy_any (a : Option Addr) (len cap : Nat) (xs : List Int) (w : World) (hr : Rd w w.heap.size a len xs) (hlen : len ≤ 4096) :
    Calls Ybad.prog 5 #[.slice a len cap] w fun e w' => ∃ v, e = .returned v ∧ w'.ownsRow w.heap.size 5 1 v len (bs xs) ∧ Below w.heap.size w w' := by
  obtain ⟨i0, hi, hz0, hz1, hz2⟩ := info_parts Ybad.info5
  have hb1 : i0.bytes * len ≤ 281474976710656 := by rw [hz2]; omega
  have hpos' : ∀ w1, Below w.heap.size w w1 → 0 < (bs xs).length → some (⟨w.heap.size, 0, none⟩ : Addr) = some ⟨w.heap.size, 0, none⟩ ∧ ∃ ad, a = some ad ∧ ∀ j v, (bs xs)[j]? = some v → w1.cell? (ad.add j) = some v := by
    intro w1 hb hp
    rw [bs_length, hr.1] at hp
    obtain ⟨b, off, e, _, _⟩ := hr.2 hp
    exact ⟨rfl, _, e, (hr.below hb).news _ e⟩
  have HP := (show Hid _ from hpos')
  clear hpos'
  go_enter Ybad.func5, Ybad.ntmps5
  go_wp2_with (first
    | (at_make; refine wpList_make_full _ rfl (.tmp 5) (.tmp 5) 22 rfl w.heap.size 5 i0 (.int .u8 0) 1 Ybad.underlying22 hi hz0 hz1 .i64 .i64 _ _ len rfl rfl rfl rfl hb1 (by unfold maxLen; omega) (Nat.le_refl _) ?_; intro w1 hown1 hgrow1; have hbel1 : Below w.heap.size w w1 := Below.grown (Below.refl _ _) hgrow1 (Nat.le_refl _) (fun k hk => (by cases hk)))
    | (have _t := hown1; refine wpList_copy_splice rfl (.tmp 7) (.tmp 8) 22 22 rfl 5 Ybad.underlying22 Ybad.size5 _ _ len len len cap rfl rfl w.heap.size 0 (List.replicate len (.int .u8 0)) 5 ?hg (bs xs) ?hn (HP.out w1 hbel1) ?hfit (bs_one xs) w.heap.size w hbel1 (Nat.le_refl _) ?_; rotate_right; intro w2 HG2 hB2))
  · go_ret
    have hl : (bs xs).length = len := by rw [bs_length]; exact hr.1
    refine ⟨_, rfl, owns_of_block ?_ (Nat.le_refl _) hl (by unfold maxLen; omega), hB2⟩
    have := HG2.out
    rw [splice_whole _ _ (by simp [hl])] at this
    exact this
  case hg =>
    have := owns_full hown1
    rw [this]
    simp [toList_madeCells_one, Value.cells]
  case hn => rw [bs_length, hr.1]
  case hfit => simp [bs_length, hr.1]

end Go.Proofs.YbulkaoueDoor
