/-
  THE CONTRACT OF 'zzs2029cwant'.
-/
import Derived.Test.YbulkaozoDoorRows
import Derived.Test.YbulkaozoDoorPlain
import Derived.WalkLawsBesides
namespace Go.Proofs.YbulkaozoDoor
open Go.RowKit

set_option maxHeartbeats 2000000 in
theorem want_yes (k : Int) (hk : k = 32 ∨ k = 22) (s : ByteArray) (w : World) : Calls Ybad.prog 5 #[.int .i64 k, .string s] w fun e w' => e = .returned (.tuple #[.int .i64 (look s.toList).1, .bool (look s.toList).2]) ∧ w = w' := by
  rcases hk with rfl | rfl
  all_goals
    go_enter Ybad.func5, Ybad.ntmps5
    go_wp2
    all_goals
      go_ret2
      refine ⟨?_, rfl⟩
      simp [look, spellL, lookFrom, *]

set_option maxHeartbeats 400000 in
theorem want_no (k : Int) (h1 : ¬ k = 32) (h2 : ¬ k = 22) (s : ByteArray) (w : World) : Calls Ybad.prog 5 #[.int .i64 k, .string s] w fun e w' => e = .returned (.tuple #[.int .i64 0, .bool false]) ∧ w = w' := by
  have b1 : (k != 32) = true := by simpa using h1
  have b2 : (k != 22) = true := by simpa using h2
  clear h1 h2
  go_enter Ybad.func5, Ybad.ntmps5
  go_wp2
  go_ret2
  exact ⟨rfl, rfl⟩

theorem want_any (k : Int) (s : ByteArray) (w : World) : Calls Ybad.prog 5 #[.int .i64 k, .string s] w fun e w' => e = .returned (.tuple #[.int .i64 (res k s.toList).1, .bool (res k s.toList).2]) ∧ w = w' := by
  by_cases h : k = 32 ∨ k = 22
  · rw [res, if_pos h]
    exact want_yes k h s w
  · rw [res, if_neg h]
    exact want_no k (fun e => h (.inl e)) (fun e => h (.inr e)) s w

end Go.Proofs.YbulkaozoDoor
