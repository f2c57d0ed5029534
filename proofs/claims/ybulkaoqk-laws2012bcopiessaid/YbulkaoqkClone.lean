/-
  THE CONTRACT OF 'zzs2012aclone': a copy in new memory; nil goes to nil.
-/
import Derived.Test.YbulkaoqkRows
import Derived.Test.YbulkaoqkPlain
import Derived.WalkLawsBesides
namespace Go.Proofs.Ybulkaoqk
open Go.RowKit

theorem Yba.info5 : (Yba.prog.info? 5).map (fun i => (i.zero, i.size, i.bytes)) = some (some (.int .u8 0), 1, 1) := by kernel_rfl
theorem Yba.size5 : (Yba.prog.info? 5).map (·.size) = some 1 := by kernel_rfl

theorem splice_whole (Z X : List Value) (h : Z.length = X.length) : splice Z 0 X = X := by
  simp [splice]; omega

set_option maxHeartbeats 400000 in
theorem clone_any (a : Option Addr) (len cap : Nat) (xs : List Int) (w : World) (hr : Rd w w.heap.size a len xs) (hn : a = none → len = 0 ∧ cap = 0) (hlen : len ≤ 1024) :
    Calls Yba.prog 7 #[.slice a len cap] w fun e w' => ∃ v, e = .returned v ∧ w'.ownsRow w.heap.size 5 1 v len (bs xs) ∧ Below w.heap.size w w' := by
  have hnil := fun (w : World) (a : Option Addr) (n c : Nat) => Lib.run_eql_slice_nil (P := Yba.prog) w 22 5 a n c 0 0 Yba.underlying22
  cases a with
  | none =>
    obtain ⟨rfl, rfl⟩ := hn rfl
    go_enter Yba.func7, Yba.ntmps7
    go_wp2
    go_ret
    have hx : xs = [] := List.eq_nil_of_length_eq_zero hr.1
    subst hx
    exact ⟨_, rfl, World.ownsRow_nil _ _ _ _, Below.refl _ _⟩
  | some ad =>
    obtain ⟨i0, hi, hz0, hz1, hz2⟩ := info_parts Yba.info5
    have hb1 : i0.bytes * len ≤ 281474976710656 := by rw [hz2]; omega
    go_enter Yba.func7, Yba.ntmps7
    go_wp2_with (first
      | (at_make; refine wpList_make_full _ rfl (.tmp 7) (.tmp 7) 22 rfl w.heap.size 5 i0 (.int .u8 0) 1 Yba.underlying22 hi hz0 hz1 .i64 .i64 _ _ len rfl rfl rfl rfl hb1 (by unfold maxLen; omega) (Nat.le_refl _) ?_; intro w1 hown1 hgrow1)
      | (have _t := hown1; refine wpList_copy_splice rfl (.tmp 9) (.tmp 10) 22 22 rfl 5 Yba.underlying22 Yba.size5 _ _ len len len cap rfl rfl w.heap.size 0 (List.replicate len (.int .u8 0)) 5 ?hg (bs xs) ?hn ?hpos ?hfit (bs_one xs) w.heap.size w ?hb (Nat.le_refl _) ?_; rotate_right; intro w2 HG2 hB2))
    · go_ret
      have hl : (bs xs).length = len := by rw [bs_length]; exact hr.1
      refine ⟨_, rfl, owns_of_block ?_ (Nat.le_refl _) hl (by unfold maxLen; omega), hB2⟩
      have := HG2.out
      rw [splice_whole _ _ (by simp [hl])] at this
      exact this
    case hg =>
      have := owns_full hown1
      rw [this]
      simp [toList_madeCells_one, Value.cells]
    case hn => rw [bs_length, hr.1]; simp
    case hpos => exact fun _ => (hr.below (Below.grown (Below.refl _ _) hgrow1 (Nat.le_refl _) (fun k hk => by cases hk))).news ad rfl
    case hfit => simp [bs_length, hr.1]
    case hb => exact Below.grown (Below.refl _ _) hgrow1 (Nat.le_refl _) (fun k hk => by cases hk)

end Go.Proofs.Ybulkaoqk
