/-
  WHAT THE ESCAPE IS, IN PLAIN WORDS; and the contract of 'zzs2019besc'.
-/
import Derived.Test.YbulkaoueDoorCopy
namespace Go.Proofs.YbulkaoueDoor
open Go.RowKit

/-- The entity of a byte; the empty string where it has none. -/
def ent (c : Int) : ByteArray :=
  if c = 38 then { data := #[38, 97, 109, 112, 59] }
  else if c = 60 then { data := #[38, 108, 116, 59] }
  else if c = 62 then { data := #[38, 103, 116, 59] }
  else if c = 34 then { data := #[38, 113, 117, 111, 116, 59] }
  else if c = 39 then { data := #[38, 35, 51, 57, 59] }
  else { data := #[] }
theorem ent_size (c : Int) : (ent c).size ≤ 6 := by
  unfold ent
  repeat' split
  all_goals decide

/-- What one byte becomes. -/
def escOf (c : Int) : List Int := if (ent c).size = 0 then [c] else sb (ent c)
/-- What a text becomes. -/
def esc (xs : List Int) : List Int := xs.flatMap escOf
theorem esc_nil : esc [] = [] := rfl
theorem esc_append (xs ys : List Int) : esc (xs ++ ys) = esc xs ++ esc ys := by simp [esc]
theorem esc_one (c : Int) : esc [c] = escOf c := by simp [esc]
theorem escOf_length (c : Int) : (escOf c).length ≤ 6 := by
  unfold escOf
  split
  · simp
  · rw [sb_length]; exact ent_size c
theorem esc_length (xs : List Int) : (esc xs).length ≤ 6 * xs.length := by
  induction xs with
  | nil => simp [esc]
  | cons x r ih =>
    have h1 := escOf_length x
    have : esc (x :: r) = escOf x ++ esc r := by simp [esc]
    rw [this, List.length_append, List.length_cons]
    omega

set_option maxHeartbeats 400000 in
theorem besc_any (c : Int) (w : World) : Calls Ybad.prog 7 #[.int .u8 c] w fun e w' => e = .returned (.string (ent c)) ∧ w' = w := by
  by_cases h1 : c = 38
  · subst h1
    go_enter Ybad.func7, Ybad.ntmps7
    go_wp2
    go_ret
    exact ⟨rfl, rfl⟩
  by_cases h2 : c = 60
  · subst h2
    go_enter Ybad.func7, Ybad.ntmps7
    go_wp2
    go_ret
    exact ⟨rfl, rfl⟩
  by_cases h3 : c = 62
  · subst h3
    go_enter Ybad.func7, Ybad.ntmps7
    go_wp2
    go_ret
    exact ⟨rfl, rfl⟩
  by_cases h4 : c = 34
  · subst h4
    go_enter Ybad.func7, Ybad.ntmps7
    go_wp2
    go_ret
    exact ⟨rfl, rfl⟩
  by_cases h5 : c = 39
  · subst h5
    go_enter Ybad.func7, Ybad.ntmps7
    go_wp2
    go_ret
    exact ⟨rfl, rfl⟩
  have he : ent c = { data := #[] } := by unfold ent; rw [if_neg h1, if_neg h2, if_neg h3, if_neg h4, if_neg h5]
  rw [he]
  have b1 : (c == 38) = false := by simpa using h1
  have b2 : (c == 60) = false := by simpa using h2
  have b3 : (c == 62) = false := by simpa using h3
  have b4 : (c == 34) = false := by simpa using h4
  have b5 : (c == 39) = false := by simpa using h5
  clear h1 h2 h3 h4 h5 he
  go_enter Ybad.func7, Ybad.ntmps7
  go_wp2
  go_ret
  exact ⟨rfl, rfl⟩

end Go.Proofs.YbulkaoueDoor
